/- The invariant of the state, with its limits, and what each step does to it. Plain. A function over an arena with local blocks: what it has done so far. Documents set and inert documents made, any number of times: what stays. A function over the arena with its map and local blocks. Plain. Package dom: adopt's closure. No condition but the invariant. Package dom: the rules of a move, and the first one that refuses it. No condition but that the arena fits and the way up ends. -/
import Derived.Test.YtdapdadcninidaaGreatDoorM7
import Derived.Test.YtdapdadcninidaaGreatDoorM3
import Derived.Test.YtdapdadcninidaaGreatDoorM5
import Derived.Test.YtdapdadcninidaaGreatDoorM6
import Derived.Test.YtdapdadcninidaaGreatDoorM4
import Derived.Deep.QuietTactic
import Derived.BigQuiet
set_option linter.unusedSimpArgs false
set_option linter.unusedVariables false
namespace Go.Proofs.YtdapdadcninidaaGreatDoor
open Go.RowKit

/-- Limits: hanging data, each datum, the measure, attributes. -/
structure Lim where
  x : Nat
  y : Nat
  f : Nat
  a : Nat
structure Gd (L : Lim) (s : St) : Prop where
  snd : ∃ r, Snd s.ns r
  map : MapOk s
  ax : attS s.ns ≤ L.x
  dy : ∀ d ∈ s.ns, d.data.length ≤ L.y
  ff : phi s ≤ L.f
  aa : ∀ d ∈ s.ns, d.attrs.length ≤ L.a
theorem Gd.weak {L M : Lim} {s : St} (h : Gd L s) (hx : L.x ≤ M.x) (hy : L.y ≤ M.y) (hf : L.f ≤ M.f) (ha : L.a ≤ M.a) : Gd M s :=
  ⟨h.snd, h.map, Nat.le_trans h.ax hx, fun d hd => Nat.le_trans (h.dy d hd) hy, Nat.le_trans h.ff hf, fun d hd => Nat.le_trans (h.aa d hd) ha⟩
theorem Gd.len {L : Lim} {s : St} (h : Gd L s) : s.ns.length ≤ L.f := by
  have := h.ff
  unfold phi at this
  omega
theorem nodup_sub_len : ∀ {l m : List Nat}, l.Nodup → (∀ x ∈ l, x ∈ m) → l.length ≤ m.length
  | [], _, _, _ => Nat.zero_le _
  | a :: l, m, hn, hs => by
    obtain ⟨h1, h2⟩ := List.nodup_cons.1 hn
    have ha := hs a List.mem_cons_self
    have ih := nodup_sub_len (m := m.erase a) h2 fun x hx => (List.mem_erase_of_ne (fun e : x = a => h1 (e ▸ hx))).2 (hs x (List.mem_cons_of_mem _ hx))
    rw [List.length_erase_of_mem ha] at ih
    have := List.length_pos_of_mem ha
    rw [List.length_cons]; omega
theorem nodup_len {n : Nat} {l : List Nat} (hn : l.Nodup) (hl : ∀ x ∈ l, 1 ≤ x ∧ x ≤ n) : l.length ≤ n := by
  have := nodup_sub_len (m := (List.range n).map (· + 1)) hn fun x hx => by
    have := hl x hx
    exact List.mem_map.2 ⟨x - 1, List.mem_range.2 (by omega), by omega⟩
  simpa using this
theorem Snd.kidsLe {ns : List Nd} {r : Nat → Nat} (h : Snd ns r) {d : Nd} (hd : d ∈ ns) : d.kids.length ≤ ns.length := by
  obtain ⟨x, hx, rfl⟩ := mem_nd hd
  exact nodup_len (h.nod x hx) fun k hk => (h.kid x k hx hk).1
theorem Gd.fit {L : Lim} {s : St} (h : Gd L s) (hf : L.f ≤ 1000000) (ha : L.a ≤ 1000000) : Fit s.ns := by
  obtain ⟨r, hr⟩ := h.snd
  have := h.len
  exact ⟨by omega, fun d hd => by have := hr.kidsLe hd; omega, fun d hd => Nat.le_trans (h.aa d hd) ha⟩
/-- What a node keeps for ever. -/
def kd (d : Nd) : Int × Int × List UInt8 × Nat × Nat := (d.kind, d.space, d.name, d.contents, d.host)
structure Kept (ns ms : List Nd) : Prop where
  len : ns.length ≤ ms.length
  old : ∀ x, inR ns x → kd (nd ms x) = kd (nd ns x)
theorem Kept.refl (ns : List Nd) : Kept ns ns := ⟨Nat.le_refl _, fun _ _ => rfl⟩
theorem Kept.inR {ns ms : List Nd} (h : Kept ns ms) {x : Nat} (hx : inR ns x) : Proofs.YtdapdadcninidaaGreatDoor.inR ms x := ⟨hx.1, Nat.le_trans hx.2 h.len⟩
theorem Kept.trans {ns ms ls : List Nd} (h : Kept ns ms) (k : Kept ms ls) : Kept ns ls := ⟨Nat.le_trans h.len k.len, fun x hx => (k.old x (h.inR hx)).trans (h.old x hx)⟩
theorem Kept.app (ns ms : List Nd) : Kept ns (ns ++ ms) := ⟨by simp, fun x hx => by rw [nd_app hx]⟩
theorem Kept.set {ns : List Nd} {x : Nat} {d : Nd} (hx : Proofs.YtdapdadcninidaaGreatDoor.inR ns x) (hd : kd d = kd (nd ns x)) : Kept ns (setNd ns ((x : Nat) : Int) d) := by
  refine ⟨Nat.le_of_eq (setNd_len _ _ _).symm, fun y hy => ?_⟩
  rw [nd_set hx hy]
  split
  · rename_i e; rw [e]; exact hd
  · rfl
theorem kd_kp {d e : Nd} (h : kp d = kp e) : kd d = kd e := by
  have h1 := congrArg kd h
  exact h1
theorem Mv.kept {ns ms : List Nd} (h : Mv ns ms) : Kept ns ms := ⟨h.len, fun x hx => kd_kp (h.old x hx)⟩
theorem InS.kept {s s' : St} (h : InS s s') : Kept s.ns s'.ns := by
  rcases h with rfl | ⟨doc, c, _, _, _, _, rfl⟩
  · exact Kept.refl _
  · exact Kept.app _ _
theorem attS_le_app (ns : List Nd) {d : Nd} (hp : d.parent = 0) : attS (ns ++ [d]) = attS ns := by
  rw [attS_app]
  have : attS [d] = 0 := by simp [attS, att, hp]
  omega
theorem mapL_new {s : St} (h : MapOk s) : mapL s.mp (s.ns.length + 1) = none := by
  unfold mapL
  rw [List.find?_eq_none.2 fun x hx => by have := h.key x hx; simp; omega]
  rfl
/-- A new node that hangs nowhere. -/
theorem Gd.add {L : Lim} {s : St} (h : Gd L s) {d : Nd} (hp : d.parent = 0) (hk : d.kids = []) (hc : d.contents = 0) (hh : d.host = 0) :
    Gd ⟨L.x, max L.y d.data.length, L.f + 2, max L.a d.attrs.length⟩ ⟨s.ns ++ [d], s.mp⟩ := by
  obtain ⟨r, hr⟩ := h.snd
  refine ⟨⟨r, hr.add hp hk hc hh⟩, h.map.grow [d], ?_, fun e he => ?_, ?_, fun e he => ?_⟩
  · show attS (s.ns ++ [d]) ≤ _
    rw [attS_le_app _ hp]; exact h.ax
  · show _ ≤ max _ _
    rcases List.mem_append.1 he with he | he
    · have := h.dy e he; omega
    · rw [List.mem_singleton.1 he]; omega
  · show phi _ ≤ L.f + 2
    have := h.ff
    unfold phi at this ⊢
    dsimp only
    rw [bareN_app, List.length_append]
    have : bareN s.mp (0 + s.ns.length) [d] ≤ 1 := by
      unfold bareN bareN; split <;> omega
    simp only [List.length_cons, List.length_nil]
    omega
  · show _ ≤ max _ _
    rcases List.mem_append.1 he with he | he
    · have := h.aa e he; omega
    · rw [List.mem_singleton.1 he]; omega
theorem phi_same {s : St} {ms : List Nd} (hl : ms.length = s.ns.length) (hk : ∀ x, inR s.ns x → (nd ms x).kind = (nd s.ns x).kind) : phi ⟨ms, s.mp⟩ = phi s := by
  unfold phi
  dsimp only
  rw [hl, bareN_kind s.mp 0 s.ns ms hl fun j d e hd he => by
    obtain ⟨h1, h2⟩ := nd_of hd
    obtain ⟨_, h4⟩ := nd_of he
    rw [← h2, ← h4]; exact hk _ h1]
theorem MapOk.same {s : St} {ms : List Nd} (h : MapOk s) (hl : ms.length = s.ns.length) : MapOk ⟨ms, s.mp⟩ := ⟨h.ent, fun x hx => by have := h.key x hx; dsimp only; rw [hl]; exact this⟩
theorem mem_set {ns : List Nd} {h : Int} {d e : Nd} (he : e ∈ setNd ns h d) : e ∈ ns ∨ e = d := by
  unfold setNd at he
  exact List.mem_or_eq_of_mem_set he
/-- A node is set, its links kept. -/
theorem Gd.set {L : Lim} {s : St} (h : Gd L s) {x : Nat} {d : Nd} (hx : inR s.ns x) (hd : sk d = sk (nd s.ns x)) :
    Gd ⟨L.x + d.data.length, max L.y d.data.length, L.f, max L.a d.attrs.length⟩ ⟨setNd s.ns ((x : Nat) : Int) d, s.mp⟩ := by
  obtain ⟨r, hr⟩ := h.snd
  refine ⟨⟨r, hr.set hx hd⟩, h.map.same (setNd_len _ _ _), ?_, fun e he => ?_, ?_, fun e he => ?_⟩
  · have h1 := attS_set hx d
    have h2 := h.ax
    have h3 : att d ≤ d.data.length := by unfold att; split <;> omega
    show attS (setNd s.ns _ d) ≤ L.x + d.data.length
    omega
  · show _ ≤ max _ _
    rcases mem_set he with he | rfl
    · have := h.dy e he; omega
    · omega
  · refine Nat.le_trans (Nat.le_of_eq (phi_same (setNd_len _ _ _) fun y hy => ?_)) h.ff
    rw [nd_set hx hy]
    split
    · rename_i e; rw [e]; exact congrArg Sk.kind hd
    · rfl
  · show _ ≤ max _ _
    rcases mem_set he with he | rfl
    · have := h.aa e he; omega
    · omega
/-- .. its data too. -/
theorem Gd.set0 {L : Lim} {s : St} (h : Gd L s) {x : Nat} {d : Nd} (hx : inR s.ns x) (hd : sk d = sk (nd s.ns x)) (hdd : d.data = (nd s.ns x).data) :
    Gd ⟨L.x, L.y, L.f, max L.a d.attrs.length⟩ ⟨setNd s.ns ((x : Nat) : Int) d, s.mp⟩ := by
  have h1 := h.set hx hd
  have hy : d.data.length ≤ L.y := by rw [hdd]; exact h.dy _ (nd_mem hx)
  refine ⟨h1.snd, h1.map, ?_, fun e he => ?_, h1.ff, h1.aa⟩
  · have h1 := attS_set hx d
    have h2 := h.ax
    have h3 : att d = att (nd s.ns x) := by unfold att; rw [hdd, show d.parent = (nd s.ns x).parent from congrArg Sk.parent hd]
    show attS (setNd s.ns _ d) ≤ L.x
    omega
  · have h2 := h1.dy e he
    dsimp only at h2 ⊢
    omega
theorem Gd.inS {L : Lim} {s s' : St} (h : Gd L s) (hi : InS s s') (hl : L.f ≤ 1000000) : Gd L s' := by
  have hlen := h.len
  have hm := hi.map h.map (by omega)
  rcases hi with rfl | ⟨doc, c, hd, hk, hn, hc, rfl⟩
  · exact h
  · obtain ⟨r, hr⟩ := h.snd
    refine ⟨⟨r, hr.add rfl rfl rfl rfl⟩, hm, ?_, fun e he => ?_, Nat.le_trans (phi_inert hd hk hn (mapL_new h.map)) h.ff, fun e he => ?_⟩
    · show attS (s.ns ++ [_]) ≤ _
      rw [attS_le_app _ rfl]; exact h.ax
    · rcases List.mem_append.1 he with he | he
      · exact h.dy e he
      · rw [List.mem_singleton.1 he]; exact Nat.zero_le _
    · rcases List.mem_append.1 he with he | he
      · exact h.aa e he
      · rw [List.mem_singleton.1 he]; exact Nat.zero_le _
theorem data_kp {d e : Nd} (h : kp d = kp e) : d.data = e.data ∧ d.attrs = e.attrs ∧ d.kind = e.kind := by
  have h1 : (kp d).data = (kp e).data := by rw [h]
  have h2 : (kp d).attrs = (kp e).attrs := by rw [h]
  have h3 : (kp d).kind = (kp e).kind := by rw [h]
  exact ⟨h1, h2, h3⟩
/-- Moves within the same nodes. -/
theorem Gd.mv {L : Lim} {s : St} (h : Gd L s) {ms : List Nd} (hm : Mv s.ns ms) (hl : ms.length = s.ns.length) (hs : ∃ r, Snd ms r) {X : Nat} (hX : attS ms ≤ X) : Gd ⟨X, L.y, L.f, L.a⟩ ⟨ms, s.mp⟩ := by
  have hr : ∀ d ∈ ms, ∃ e ∈ s.ns, kp d = kp e := fun d hd => by
    obtain ⟨x, hx, rfl⟩ := mem_nd hd
    have hx' : inR s.ns x := ⟨hx.1, by rw [← hl]; exact hx.2⟩
    exact ⟨_, nd_mem hx', hm.old x hx'⟩
  refine ⟨hs, h.map.same hl, hX, fun d hd => ?_, Nat.le_trans (Nat.le_of_eq (phi_same hl fun x hx => (data_kp (hm.old x hx)).2.2)) h.ff, fun d hd => ?_⟩
  · obtain ⟨e, he, hk⟩ := hr d hd
    rw [(data_kp hk).1]; exact h.dy e he
  · obtain ⟨e, he, hk⟩ := hr d hd
    rw [(data_kp hk).2.1]; exact h.aa e he
end Go.Proofs.YtdapdadcninidaaGreatDoor
namespace Go.Proofs.YtdapdadcninidaaGreatDoor
open Go.RowKit

/-- From w on: the arena's own blocks were O, are O1 now; n local blocks lie behind w. -/
structure Loc (B : AB) (n : Nat) (O : List Nat) (w : World) (O1 : List Nat) (ns1 : List Nd) (w1 : World) : Prop where
  ar : ArW B O1 ns1 w1
  md : Mod (· ∈ O) w w1
  ow : ∀ k ∈ O1, k ∈ O ∨ w.heap.size + n ≤ k
  sz : w.heap.size + n ≤ w1.heap.size
  lo : ∀ k ∈ O, k < w.heap.size
theorem Loc.start {B : AB} {n : Nat} {O : List Nat} {ns : List Nd} {w w1 : World} (hA : ArW B O ns w) (hb : Below w.heap.size w w1) (hs : w1.heap.size = w.heap.size + n) : Loc B n O w O ns w1 :=
  ⟨hA.later hb, Mod.of_below hb, fun _ h => .inl h, by omega, fun _ hk => hA.lt hk⟩
theorem Loc.call {B : AB} {n : Nat} {O O1 O2 : List Nat} {ns1 ns2 : List Nd} {w w1 w2 : World} (h : Loc B n O w O1 ns1 w1) (hA : ArW B O2 ns2 w2) (hs : AStep O1 w1 O2 w2) : Loc B n O w O2 ns2 w2 := by
  obtain ⟨h1, h2, h3, h4, h5⟩ := h
  refine ⟨hA, ⟨hs.mod.os.trans h2.os, hs.mod.tape.trans h2.tape, hs.mod.output.trans h2.output, Nat.le_trans h2.size hs.mod.size, fun k hk hO => ?_⟩, fun k hk => ?_, Nat.le_trans h4 hs.mod.size, h5⟩
  · refine (hs.mod.block k (by omega) fun hk1 => ?_).trans (h2.block k hk hO)
    rcases h3 k hk1 with h | h
    · exact hO h
    · omega
  · rcases hs.own k hk with h | h
    · exact h3 k h
    · exact .inr (by omega)
/-- A call keeps the local blocks. -/
theorem Loc.keep {B : AB} {n : Nat} {O O1 O2 : List Nat} {ns1 : List Nd} {w w1 w2 : World} (h : Loc B n O w O1 ns1 w1) (hs : AStep O1 w1 O2 w2) {b : Nat} (hb : w.heap.size ≤ b ∧ b < w.heap.size + n) : w2.heap[b]? = w1.heap[b]? :=
  hs.mod.block b (by have := h.sz; omega) fun hk => by
    rcases h.ow b hk with h1 | h1
    · have := h.lo b h1; omega
    · omega
theorem Loc.below {B : AB} {n : Nat} {O O1 : List Nat} {ns1 : List Nd} {w w1 w2 : World} (h : Loc B n O w O1 ns1 w1) (hb : Below w1.heap.size w1 w2) : Loc B n O w O1 ns1 w2 :=
  h.call (h.ar.later hb) ⟨Mod.of_below hb, fun _ hk => .inl hk⟩
theorem Loc.set {B : AB} {n : Nat} {O O1 : List Nat} {ns1 : List Nd} {w w1 : World} (h : Loc B n O w O1 ns1 w1) {b o : Nat} (v : Value) (hb : w.heap.size ≤ b ∧ b < w.heap.size + n) : Loc B n O w O1 ns1 (w1.setCell ⟨b, o, none⟩ v) := by
  obtain ⟨h1, h2, h3, h4, h5⟩ := h
  have hm : Mod (fun k => k = b) w1 (w1.setCell ⟨b, o, none⟩ v) := Mod.setCell _ _ rfl
  refine ⟨h1.kept hm fun k hk e => ?_, ⟨hm.os.trans h2.os, hm.tape.trans h2.tape, hm.output.trans h2.output, Nat.le_trans h2.size hm.size, fun k hk hO => (hm.block k (by omega) (by omega)).trans (h2.block k hk hO)⟩, h3, Nat.le_trans h4 hm.size, h5⟩
  subst e
  rcases h3 k hk with h | h
  · have := h5 k h; omega
  · omega
theorem Loc.drew {B : AB} {n : Nat} {O O1 : List Nat} {ns1 : List Nd} {w w1 : World} (h : Loc B n O w O1 ns1 w1) : Loc B n O w O1 ns1 w1.drew := h.below ⟨rfl, rfl, rfl, Nat.le_refl _, fun _ _ => rfl⟩
theorem Loc.step {B : AB} {n : Nat} {O O1 : List Nat} {ns1 : List Nd} {w w1 : World} (h : Loc B n O w O1 ns1 w1) : AStep O w O1 w1 :=
  ⟨h.md, fun k hk => (h.ow k hk).imp id fun h => by omega⟩
/-- A call that sets something, as one step. -/
theorem Did.step {B : AB} {O : List Nat} {ns ns' : List Nd} {w w' : World} {er : Int} {e : Ending} (hA : ArW B O ns w) (h : Did B O w er ns' e w') : ∃ O', ArW B O' (if er = 0 then ns' else ns) w' ∧ AStep O w O' w' := by
  rcases h.2 with ⟨h1, h2⟩ | ⟨h1, O', h2, h3⟩
  · rw [if_neg h1]
    exact ⟨O, hA.later h2, Mod.of_below h2, fun _ hk => .inl hk⟩
  · rw [if_pos h1]
    exact ⟨O', h2, h3⟩
theorem heap_cell {w w' : World} {b : Nat} (h : w'.heap[b]? = w.heap[b]?) (o : Nat) : w'.cell? ⟨b, o, none⟩ = w.cell? ⟨b, o, none⟩ := World.cell?_of_block (w := w) h
end Go.Proofs.YtdapdadcninidaaGreatDoor
namespace Go.Proofs.YtdapdadcninidaaGreatDoor
open Go.RowKit

/-- Steps that set documents of nodes and make inert documents. -/
inductive Dq : St → St → Prop
  | refl (s : St) : Dq s s
  | doc {s s' : St} (x d : Nat) : inR s.ns x → Dq ⟨setNd s.ns ((x : Nat) : Int) { nd s.ns x with doc := d }, s.mp⟩ s' → Dq s s'
  | inert {s s1 s' : St} : InS s s1 → Dq s1 s' → Dq s s'
theorem Dq.trans {s s1 s2 : St} (h : Dq s s1) (k : Dq s1 s2) : Dq s s2 := by
  induction h with
  | refl => exact k
  | doc x d hx _ ih => exact .doc x d hx (ih k)
  | inert hi _ ih => exact .inert hi (ih k)
theorem Dq.len {s s' : St} (h : Dq s s') : s.ns.length ≤ s'.ns.length := by
  induction h with
  | refl => exact Nat.le_refl _
  | doc x d hx _ ih => rw [setNd_len] at ih; exact ih
  | inert hi _ ih => rcases hi.len with h | h <;> omega
theorem Dq.gd {L : Lim} {s s' : St} (h : Dq s s') (hl : L.f ≤ 1000000) (hg : Gd L s) : Gd L s' := by
  induction h with
  | refl => exact hg
  | doc x d hx _ ih =>
    refine ih ((hg.set0 (d := { nd _ x with doc := d }) hx rfl rfl).weak (Nat.le_refl _) (Nat.le_refl _) (Nat.le_refl _) ?_)
    have := hg.aa _ (nd_mem hx)
    show max L.a _ ≤ L.a
    exact Nat.max_le.2 ⟨Nat.le_refl _, this⟩
  | inert hi _ ih => exact ih (hg.inS hi hl)
theorem InS.snd {s s' : St} (h : InS s s') {r : Nat → Nat} (hr : Snd s.ns r) : Snd s'.ns r := by
  rcases h with rfl | ⟨doc, c, _, _, _, _, rfl⟩
  · exact hr
  · exact hr.add rfl rfl rfl rfl
theorem Dq.snd {s s' : St} (h : Dq s s') {r : Nat → Nat} (hr : Snd s.ns r) : Snd s'.ns r := by
  induction h with
  | refl => exact hr
  | doc x d hx _ ih => exact ih (hr.set hx rfl)
  | inert hi _ ih => exact ih (hi.snd hr)
def noDoc (d : Nd) : Nd := { d with doc := 0 }
theorem Dq.inR {s s' : St} (h : Dq s s') {x : Nat} (hx : inR s.ns x) : inR s'.ns x := ⟨hx.1, Nat.le_trans hx.2 h.len⟩
theorem Dq.old {s s' : St} (h : Dq s s') {x : Nat} (hx : Proofs.YtdapdadcninidaaGreatDoor.inR s.ns x) : noDoc (nd s'.ns x) = noDoc (nd s.ns x) := by
  induction h with
  | refl => rfl
  | doc y d hy _ ih =>
    rw [ih (inR_set.2 hx)]
    dsimp only
    rw [nd_set hy hx]
    split
    · rename_i e; rw [e]; rfl
    · rfl
  | inert hi _ ih =>
    obtain ⟨h1, h2⟩ := hi.nd hx
    rw [ih h1, h2]
theorem Dq.new {s s' : St} (h : Dq s s') {x : Nat} (hx : Proofs.YtdapdadcninidaaGreatDoor.inR s'.ns x) (hn : ¬ Proofs.YtdapdadcninidaaGreatDoor.inR s.ns x) : noDoc (nd s'.ns x) = { kind := 1 } := by
  induction h with
  | refl => exact absurd hx hn
  | doc y d hy _ ih => exact ih hx fun h => hn (inR_set.1 h)
  | @inert s s1 s2 hi hq ih =>
    by_cases h1 : Proofs.YtdapdadcninidaaGreatDoor.inR s1.ns x
    · rw [hq.old h1]
      rcases hi with rfl | ⟨doc, c, _, _, _, _, rfl⟩
      · exact absurd h1 hn
      · have e : x = s.ns.length + 1 := by
          obtain ⟨a, b⟩ := h1
          unfold inertS at b
          simp only [List.length_append, List.length_cons, List.length_nil] at b
          have : ¬ x ≤ s.ns.length := fun h => hn ⟨a, h⟩
          omega
        rw [e]
        have := (nd_app_new (ns := s.ns) (ms := [{ kind := 1, doc := s.ns.length + 1 }]) (j := 0) rfl).2
        unfold inertS
        dsimp only
        rw [Nat.add_zero] at this
        rw [this]; rfl
    · exact ih hx h1
theorem noDoc_kids {d e : Nd} (h : noDoc d = noDoc e) : d.kids = e.kids := by
  have h1 : (noDoc d).kids = (noDoc e).kids := by rw [h]
  exact h1
theorem noDoc_parent {d e : Nd} (h : noDoc d = noDoc e) : d.parent = e.parent := by
  have h1 : (noDoc d).parent = (noDoc e).parent := by rw [h]
  exact h1
theorem noDoc_contents {d e : Nd} (h : noDoc d = noDoc e) : d.contents = e.contents := by
  have h1 : (noDoc d).contents = (noDoc e).contents := by rw [h]
  exact h1
theorem noDoc_kp {d e : Nd} (h : noDoc d = noDoc e) : kp d = kp e := by
  have h1 : kp (noDoc d) = kp (noDoc e) := by rw [h]
  exact h1
theorem Dq.kids {s s' : St} (h : Dq s s') (x : Int) : kidsAt s'.ns x = kidsAt s.ns x := by
  unfold kidsAt
  by_cases h1 : isH s.ns.length x = true
  · obtain ⟨y, rfl, hy⟩ := isH_nat h1
    rw [if_pos h1, if_pos (inR_isH.2 (h.inR hy))]
    exact noDoc_kids (h.old hy)
  · rw [if_neg h1]
    split
    · rename_i h2
      obtain ⟨y, rfl, hy⟩ := isH_nat h2
      have h3 : (noDoc (nd s'.ns y)).kids = [] := by rw [h.new hy fun hn => h1 (inR_isH.2 hn)]
      exact h3
    · rfl
theorem Dq.mv {s s' : St} (h : Dq s s') : Mv s.ns s'.ns :=
  ⟨h.len, fun x hx => noDoc_kp (h.old hx), fun x hx hn => by
    have : kp (nd s'.ns x) = kp (noDoc (nd s'.ns x)) := rfl
    rw [this, h.new hx hn]; rfl⟩
/-- From w on: the arena's own blocks were O, are O1 now; n local blocks lie behind w. -/
structure LocM (T : Nat) (n : Nat) (O : List Nat) (w : World) (O1 : List Nat) (s1 : St) (w1 : World) : Prop where
  ar : ArM T O1 s1 w1
  md : Mod (· ∈ O) w w1
  ow : ∀ k ∈ O1, k ∈ O ∨ w.heap.size + n ≤ k
  sz : w.heap.size + n ≤ w1.heap.size
  lo : ∀ k ∈ O, k < w.heap.size
theorem LocM.start {T n : Nat} {O : List Nat} {s : St} {w w1 : World} (hA : ArM T O s w) (hb : Below w.heap.size w w1) (hs : w.heap.size + n ≤ w1.heap.size) : LocM T n O w O s w1 :=
  ⟨hA.later hb, Mod.of_below hb, fun _ h => .inl h, hs, fun _ hk => hA.lt _ hk⟩
theorem LocM.call {T n : Nat} {O O1 O2 : List Nat} {s1 s2 : St} {w w1 w2 : World} (h : LocM T n O w O1 s1 w1) (hA : ArM T O2 s2 w2) (hs : AStep O1 w1 O2 w2) : LocM T n O w O2 s2 w2 := by
  obtain ⟨h1, h2, h3, h4, h5⟩ := h
  refine ⟨hA, ⟨hs.mod.os.trans h2.os, hs.mod.tape.trans h2.tape, hs.mod.output.trans h2.output, Nat.le_trans h2.size hs.mod.size, fun k hk hO => ?_⟩, fun k hk => ?_, Nat.le_trans h4 hs.mod.size, h5⟩
  · refine (hs.mod.block k (by omega) fun hk1 => ?_).trans (h2.block k hk hO)
    rcases h3 k hk1 with h | h
    · exact hO h
    · omega
  · rcases hs.own k hk with h | h
    · exact h3 k h
    · exact .inr (by omega)
theorem LocM.keep {T n : Nat} {O O1 O2 : List Nat} {s1 : St} {w w1 w2 : World} (h : LocM T n O w O1 s1 w1) (hs : AStep O1 w1 O2 w2) {b : Nat} (hb : w.heap.size ≤ b ∧ b < w.heap.size + n) : w2.heap[b]? = w1.heap[b]? :=
  hs.mod.block b (by have := h.sz; omega) fun hk => by
    rcases h.ow b hk with h1 | h1
    · have := h.lo b h1; omega
    · omega
theorem LocM.below {T n : Nat} {O O1 : List Nat} {s1 : St} {w w1 w2 : World} (h : LocM T n O w O1 s1 w1) (hb : Below w1.heap.size w1 w2) : LocM T n O w O1 s1 w2 :=
  h.call (h.ar.later hb) ⟨Mod.of_below hb, fun _ hk => .inl hk⟩
theorem LocM.set {T n : Nat} {O O1 : List Nat} {s1 : St} {w w1 : World} (h : LocM T n O w O1 s1 w1) {b o : Nat} (v : Value) (hb : w.heap.size ≤ b ∧ b < w.heap.size + n) : LocM T n O w O1 s1 (w1.setCell ⟨b, o, none⟩ v) := by
  obtain ⟨h1, h2, h3, h4, h5⟩ := h
  have hm : Mod (fun k => k = b) w1 (w1.setCell ⟨b, o, none⟩ v) := Mod.setCell _ _ rfl
  refine ⟨h1.kept hm fun k hk e => ?_, ⟨hm.os.trans h2.os, hm.tape.trans h2.tape, hm.output.trans h2.output, Nat.le_trans h2.size hm.size, fun k hk hO => (hm.block k (by omega) (by omega)).trans (h2.block k hk hO)⟩, h3, Nat.le_trans h4 hm.size, h5⟩
  subst e
  rcases h3 k hk with h | h
  · have := h5 k h; omega
  · omega
theorem LocM.drew {T n : Nat} {O O1 : List Nat} {s1 : St} {w w1 : World} (h : LocM T n O w O1 s1 w1) : LocM T n O w O1 s1 w1.drew := h.below ⟨rfl, rfl, rfl, Nat.le_refl _, fun _ _ => rfl⟩
theorem LocM.step {T n : Nat} {O O1 : List Nat} {s1 : St} {w w1 : World} (h : LocM T n O w O1 s1 w1) : AStep O w O1 w1 :=
  ⟨h.md, fun k hk => (h.ow k hk).imp id fun h => by omega⟩
theorem LocM.act {T n : Nat} {O O1 : List Nat} {s1 : St} {w w1 : World} {R : Ending → St → Prop} {e : Ending} (h : LocM T n O w O1 s1 w1) (hR : R e s1) : Act T O w R e w1 := ⟨s1, O1, h.ar, h.step, hR⟩
/-- A call over the nodes alone that sets something. -/
theorem ArM.did {T : Nat} {O : List Nat} {s : St} {w : World} (hA : ArM T O s w) : ∃ iv O1, ArW ⟨T, iv⟩ O1 s.ns w ∧ ∀ er ns2 e w2, Did ⟨T, iv⟩ O1 w er ns2 e w2 → Act T O w (fun e s' => e = .returned (.int .i64 er) ∧ s' = if er = 0 then ⟨ns2, s.mp⟩ else s) e w2 := by
  obtain ⟨iv, O1, hA1, ht⟩ := hA.turn
  refine ⟨iv, O1, hA1, fun er ns2 e w2 hd => ?_⟩
  obtain ⟨O2, h2, h3⟩ := hd.step hA1
  obtain ⟨O3, h4, h5⟩ := ht O2 _ w2 h2 h3
  refine ⟨_, O3, h4, h5, hd.1, ?_⟩
  split <;> rfl
end Go.Proofs.YtdapdadcninidaaGreatDoor
namespace Go.Proofs.YtdapdadcninidaaGreatDoor
open Go.RowKit
attribute [local go_sem ↓] Go.wp_at_zero Go.wp_at_succ

/-- A box that is none of the arena's. -/
structure Bx (b : Nat) (O : List Nat) (w : World) (v : Value) : Prop where
  c : w.cell? ⟨b, 0, none⟩ = some v
  o : b ∉ O
theorem Bx.lt {b : Nat} {O : List Nat} {w : World} {v : Value} (h : Bx b O w v) : b < w.heap.size := World.block_lt_of_cell? _ _ h.c
theorem Bx.step {b : Nat} {O O' : List Nat} {w w' : World} {v : Value} (h : Bx b O w v) (hs : AStep O w O' w') : Bx b O' w' v :=
  ⟨(heap_cell (hs.mod.block b h.lt h.o) 0).trans h.c, fun hb => by
    rcases hs.own b hb with h1 | h1
    · exact h.o h1
    · have := h.lt; omega⟩
theorem Bx.later {b : Nat} {O : List Nat} {w w' : World} {v : Value} (h : Bx b O w v) (hb : Below w.heap.size w w') : Bx b O w' v := h.step (astep_below hb)
theorem setDoc_dq {s : St} {x doc : Int} : Dq s (if setDocE s.ns x doc = 0 then ⟨setNd s.ns x { ndAt s.ns x with doc := doc.toNat }, s.mp⟩ else s) := by
  split
  · rename_i h
    unfold setDocE at h
    split at h
    · rename_i hh
      rw [Bool.and_eq_true] at hh
      obtain ⟨y, rfl, hy⟩ := isH_nat hh.1
      exact .doc y doc.toNat hy (.refl _)
    · cases h
  · exact .refl _
/-- What adopt and its closure answer and leave. -/
def AdR (s : St) (e : Ending) (s' : St) : Prop := e = .returned (.tuple #[]) ∧ Dq s s'
set_option maxRecDepth 100000 in
set_option maxHeartbeats 4000000 in
theorem own_act (x doc : Int) (w : World) {T bt bd : Nat} {O : List Nat} {s : St} {L : Lim} (hA : ArM T O s w) (hg : Gd L s) (hf : L.f ≤ 900000) (ha : L.a ≤ 900000) (h1 : Bx bt O w (.pointer (some ⟨T, 0, none⟩))) (h2 : Bx bd O w (.int .i64 doc))
    (IH : ∀ s2 O2 w2 (y : Nat) (doc' : Int), x = ((y : Nat) : Int) → inR s.ns y → (nd s.ns y).contents ≠ 0 → Dq s s2 → ArM T O2 s2 w2 → Calls Tryz.prog 119 #[.pointer (some ⟨T, 0, none⟩), .int .i64 (((nd s.ns y).contents : Nat) : Int), .int .i64 doc'] w2 (Act T O2 w2 (AdR s2))) :
    Calls Tryz.prog 162 #[.int .i64 x, .pointer (some ⟨bt, 0, none⟩), .pointer (some ⟨bd, 0, none⟩)] w (Act T O w (AdR s)) := by
  have hlen := hg.len
  obtain ⟨iv, O1, hA1, hd⟩ := hA.did
  have H1 : Calls Tryz.prog 129 #[.pointer (some ⟨T, 0, none⟩), .int .i64 x, .int .i64 doc] w (Act T O w (fun e s' => e = .returned (.int .i64 (setDocE s.ns x doc)) ∧ Dq s s')) :=
    (SetDoc_any x doc w hA1 (by omega)).mono fun e w' h => (hd _ _ e w' h).mono fun s' hs => ⟨hs.1, by rw [hs.2]; exact setDoc_dq⟩
  generalize setDocE s.ns x doc = er at H1
  have c1 := h1.c
  have c2 := h2.c
  have H1 := Lib.hid H1; have HG := Lib.hid hg; have B1 := Lib.hid h1; have B2 := Lib.hid h2; have HI := Lib.hid IH
  clear hA hg h1 h2 IH hlen hA1 hd
  go_enter Tryz.func162, Tryz.ntmps162
  go_wp2_with fail
  refine H1.out.mono ?_
  rintro e w1 ⟨s1, O1, hA1, hs1, rfl, hq1⟩
  have hg1 := hq1.gd (by omega) HG.out
  obtain ⟨iv1, O1a, hA1a, -⟩ := hA1.turn
  have H2 := Lib.hid (NodeD_any x w1 hA1a (hg1.fit (by omega) (by omega)))
  have b1 := B1.out.step hs1
  have b2 := B2.out.step hs1
  have c1 := b1.c
  have c2 := b2.c
  have HA1 := Lib.hid hA1; have HQ1 := Lib.hid hq1; have HG1 := Lib.hid hg1; have B1 := Lib.hid b1; have B2 := Lib.hid b2; have HS1 := Lib.hid hs1
  have HC : Hid ((descAt s1.ns x).contents ≠ 0 → ∃ y : Nat, x = ((y : Nat) : Int) ∧ inR s.ns y ∧ (nd s.ns y).contents = (descAt s1.ns x).contents) := Lib.hid (by
    intro hc
    unfold descAt at hc ⊢
    split at hc
    · rename_i hx
      rw [if_pos hx]
      obtain ⟨y, rfl, hy⟩ := isH_nat hx
      by_cases hys : inR s.ns y
      · exact ⟨y, rfl, hys, (noDoc_contents (HQ1.out.old hys)).symm⟩
      · have h3 : (noDoc (nd s1.ns y)).contents = 0 := by rw [HQ1.out.new hy hys]
        exact absurd h3 hc
    · exact absurd rfl hc)
  generalize descAt s1.ns x = d at *
  clear hA1 hs1 hq1 hg1 hA1a b1 b2 H1
  go_wp2_with fail
  refine H2.out.mono ?_
  rintro e w2 ⟨k1, k2, a1, a2, rfl, -, -, bb⟩
  have BB := Lib.hid bb
  have b1 := B1.out.later bb
  have b2 := B2.out.later bb
  have c1 := b1.c
  have c2 := b2.c
  clear bb H2
  by_cases hc0 : d.contents = 0
  · have hc : ((d.contents : Nat) : Int) = 0 := by omega
    rw [hc]
    have HF := Lib.hid (fun w' (hb : Below w1.heap.size w1 w') => show Act T O w (AdR s) (.returned (.tuple #[])) w' from ⟨s1, O1, HA1.out.later hb, HS1.out.trans (astep_below hb), rfl, HQ1.out⟩)
    go_wp2_with fail
    go_end0
    exact HF.out _ (BB.out.alloc BB.out.size _)
  · obtain ⟨y, hxy, hys, hyc⟩ := HC.out hc0
    have HIy := Lib.hid (fun s2 O2 w2 doc' h1 h2 => HI.out s2 O2 w2 y doc' hxy hys (by rw [hyc]; exact hc0) h1 h2)
    rw [hyc] at HIy
    have hc0i : ((d.contents : Nat) : Int) ≠ 0 := by omega
    obtain ⟨c, hc⟩ : ∃ c : Int, ((d.contents : Nat) : Int) = c := ⟨_, rfl⟩
    rw [hc] at HIy hc0i ⊢
    have hne : (c != 0) = true := by simpa using hc0i
    have l1 := b1.lt
    have l2 := b2.lt
    clear HC HI hyc hc0 hc hc0i hxy hys
    go_wp2_with fail
    generalize hW3 : w2.alloc _ = W3
    have hb3 : Below w1.heap.size w1 W3 := by rw [← hW3]; exact BB.out.alloc BB.out.size _
    have hb23 : Below w2.heap.size w2 W3 := by rw [← hW3]; exact balloc _ _
    have hh3 : W3.heap[w2.heap.size]? = some (.cells #[.int .i64 d.kind, .int .i64 (d.parent : Nat), .slice k1 d.kids.length k2, .int .i64 (d.doc : Nat), .int .i64 d.space, .string ⟨d.name.toArray⟩, .slice a1 d.attrs.length a2, .string ⟨d.data.toArray⟩, .string ⟨d.pub.toArray⟩, .string ⟨d.sys.toArray⟩, .bool d.quirks, .int .i64 c, .int .i64 (d.host : Nat)] 55 (0, 0)) := by rw [← hW3]; exact World.alloc_heap_new w2 _
    have hn3 : w2.heap.size ∉ O1 := fun hk => by have := HA1.out.lt _ hk; have := BB.out.size; omega
    have hA3 := HA1.out.later hb3
    have H3 := Lib.hid (Inert_act doc W3 hA3 HG1.out.map (by have := HG1.out.len; omega))
    have b1 := b1.later hb23
    have b2 := b2.later hb23
    have HB3 := Lib.hid hb3; have HH3 := Lib.hid hh3; have HN3 := Lib.hid hn3; have B1 := Lib.hid b1
    have c1 := b1.c
    have c2 := b2.c
    clear hW3 hb3 hb23 hh3 hn3 hA3 b1 b2
    refine H3.out.mono ?_
    rintro e w4 ⟨s2, O2, hA2, hs2, ⟨v, ev, rfl⟩, hi2⟩
    have b1 := B1.out.step hs2
    have c1 := b1.c
    have h4 := (hs2.mod.block _ (Array.getElem?_eq_some_iff.1 HH3.out).1 HN3.out).trans HH3.out
    have c11 : w4.cell? ⟨w2.heap.size, 11, none⟩ = some (.int .i64 c) := by rw [cell_of_row _ _ _ _ _ _ h4]; rfl
    have H4 := Lib.hid (HIy.out s2 O2 w4 v (HQ1.out.trans (.inert hi2 (.refl _))) hA2)
    have HQ2 := Lib.hid (HQ1.out.trans (.inert hi2 (.refl _))); have HS2 := Lib.hid ((HS1.out.trans (astep_below HB3.out)).trans hs2)
    clear hA2 hs2 hi2 b1 h4 H3
    go_wp2_with fail
    refine H4.out.mono ?_
    rintro e w5 ⟨s3, O3, hA3, hs3, rfl, hq3⟩
    have HF := Lib.hid (show Act T O w (AdR s) (.returned (.tuple #[])) w5 from ⟨s3, O3, hA3, HS2.out.trans hs3, rfl, HQ2.out.trans hq3⟩)
    clear hA3 hs3 hq3
    go_wp2_with fail
    go_end0
    exact HF.out
end Go.Proofs.YtdapdadcninidaaGreatDoor
namespace Go.Proofs.YtdapdadcninidaaGreatDoor
open Go.RowKit
attribute [local go_sem ↓] Go.wp_at_zero Go.wp_at_succ

def mvV (B : Nat) (p n c : Int) (r : Bool) : Value := .agg #[.pointer (some ⟨B, 0, none⟩), .int .i64 p, .int .i64 n, .int .i64 c, .bool r]
def kdA (ns : List Nd) (h : Int) : Int := (descAt ns h).kind
/-- May a node of this kind have children? -/
def parK (k : Int) : Bool := k == 1 || (k == 2 || k == 4)
def parOf (ns : List Nd) (h : Int) : Int := if isH ns.length h then ((ndAt ns h).parent : Int) else 0
theorem bneA {a b : Int} (h : (a == b) = false) : (a != b) = true := by simpa using h
set_option maxRecDepth 100000 in
theorem rule1_any (p n c : Int) (r : Bool) (w : World) {B : AB} {O : List Nat} {ns : List Nd} (hA : ArW B O ns w) (hf : Fit ns) :
    Calls Tryz.prog 190 #[mvV B p n c r] w (Ret w (.bool (!parK (kdA ns p)))) := by
  have H1 := Lib.hid (fun w' (hb : Below w.heap.size w w') => kind_any p w' (hA.later hb) hf)
  rw [show (descAt ns p).kind = kdA ns p from rfl] at H1
  have HB0 := Lib.hid (fun o => balloc w o)
  generalize kdA ns p = k at *
  unfold mvV
  clear hA hf
  have hk : k = 1 ∨ ((k == 1) = false ∧ k = 2) ∨ ((k == 1) = false ∧ (k == 2) = false ∧ k = 4) ∨ ((k == 1) = false ∧ (k == 2) = false ∧ (k == 4) = false) := by simp only [beq_eq_false_iff_ne]; omega
  rcases hk with rfl | ⟨h1, rfl⟩ | ⟨h1, h2, rfl⟩ | ⟨h1, h2, h3⟩
  all_goals
    try have g1 := bneA h1
    try have g2 := bneA h2
    try have g3 := bneA h3
    go_enter Tryz.func190, Tryz.ntmps190
    go_wp2_with (go_at_call 81; refine (H1.out _ (HB0.out _)).mono ?_; rintro e w1 ⟨rfl, b1⟩)
    go_ret
    exact Ret.mk (by simp [parK, *]) (bthen (HB0.out _) (HB0.out _).size b1)
set_option maxRecDepth 100000 in
theorem rule2_any (p n c : Int) (r : Bool) (w : World) {B : AB} {O : List Nat} {ns : List Nd} (hA : ArW B O ns w) (hf : Fit ns) (hup : isH ns.length p = true → ∃ xs, Up ns true p xs) :
    Calls Tryz.prog 191 #[mvV B p n c r] w (Ret w (.bool (containsL ns n p))) := by
  have H1 := Lib.hid (fun w' (hb : Below w.heap.size w w') => Contains_any n p w' (hA.later hb) hf.len hup)
  have HB0 := Lib.hid (fun o => balloc w o)
  unfold mvV
  clear hA hf hup
  go_enter Tryz.func191, Tryz.ntmps191
  go_wp2_with (go_at_call 46; refine (H1.out _ (HB0.out _)).mono ?_; rintro e w1 ⟨rfl, b1⟩)
  go_ret
  exact Ret.mk rfl (bthen (HB0.out _) (HB0.out _).size b1)
theorem quiet_leftA {P : Program} {f : FuncId} {args : Array Value} {w : World} {n : Nat} {v : Value} (h : Calls P f args (w.drewN n) fun e w' => e = .returned v ∧ w.drewN n = w') :
    Calls P f args (w.drewN n) fun e w'' => e = .returned v ∧ ∃ m, w'' = w.drewN m := h.mono fun _ _ ⟨he, hm⟩ => ⟨he, n, hm.symm⟩
theorem bdrewA {n : Nat} {w w' : World} (h : Below n w w') : Below n w w'.drew := ⟨h.os, h.tape, h.output, h.size, h.block⟩
theorem bdrewsA {n : Nat} {w w' : World} (h : Below n w w') (k : Nat) : Below n w (w'.drewN k) := ⟨h.os, h.tape, h.output, h.size, h.block⟩
/-- A move's box in a later world. -/
structure MvAt (B : Nat) (p n c : Int) (r : Bool) (w w1 : World) : Prop where
  box : w1.heap[w.heap.size]? = some (.cells #[.pointer (some ⟨B, 0, none⟩), .int .i64 p, .int .i64 n, .int .i64 c, .bool r] 173 (0, 0))
  bl : Below w.heap.size w w1
theorem MvAt.start {B : Nat} {p n c : Int} {r : Bool} {w W0 : World} (h : w.alloc (.cells #[.pointer (some ⟨B, 0, none⟩), .int .i64 p, .int .i64 n, .int .i64 c, .bool r] 173) = W0) : MvAt B p n c r w W0 := by
  subst h
  exact ⟨World.alloc_heap_new w _, balloc w _⟩
theorem MvAt.step {B : Nat} {p n c : Int} {r : Bool} {w w1 w2 : World} (h : MvAt B p n c r w w1) (hb : Below w1.heap.size w1 w2) : MvAt B p n c r w w2 :=
  ⟨(hb.block _ (Array.getElem?_eq_some_iff.1 h.box).1).trans h.box, bthen h.bl h.bl.size hb⟩
theorem MvAt.drew {B : Nat} {p n c : Int} {r : Bool} {w w1 : World} (h : MvAt B p n c r w w1) : MvAt B p n c r w w1.drew := ⟨h.box, bdrewA h.bl⟩
theorem MvAt.cells {B : Nat} {p n c : Int} {r : Bool} {w w1 : World} (h : MvAt B p n c r w w1) : w1.cell? ⟨w.heap.size, 0, none⟩ = some (.pointer (some ⟨B, 0, none⟩)) ∧ w1.cell? ⟨w.heap.size, 1, none⟩ = some (.int .i64 p) ∧ w1.cell? ⟨w.heap.size, 2, none⟩ = some (.int .i64 n) ∧ w1.cell? ⟨w.heap.size, 3, none⟩ = some (.int .i64 c) ∧
      w1.cell? ⟨w.heap.size, 4, none⟩ = some (.bool r) := by
  have hb := h.box
  exact ⟨by rw [cell_of_row _ _ _ _ _ _ hb]; rfl, by rw [cell_of_row _ _ _ _ _ _ hb]; rfl, by rw [cell_of_row _ _ _ _ _ _ hb]; rfl, by rw [cell_of_row _ _ _ _ _ _ hb]; rfl, by rw [cell_of_row _ _ _ _ _ _ hb]; rfl⟩
/-- What a region that loads a move's first cells keeps. -/
theorem MvAt.s {B : Nat} {p n c : Int} {r : Bool} {w w1 : World} (h : MvAt B p n c r w w1) : w1.cell? ⟨w.heap.size, 0, none⟩ = some (.pointer (some ⟨B, 0, none⟩)) ∧ w1.cell? ⟨w.heap.size, 1, none⟩ = some (.int .i64 p) ∧ w1.cell? ⟨w.heap.size, 2, none⟩ = some (.int .i64 n) ∧ MvAt B p n c r w w1 :=
  ⟨h.cells.1, h.cells.2.1, h.cells.2.2.1, h⟩
/-- A region that draws its order, its calls kept within a class of worlds. -/
theorem region_class {P : Program} {id : Nat} {Q : Exit → Go.Act → World → Prop} {a : Go.Act} {w : World} {l : List Oper} (C : World → Prop) (hm : P.follows .mixedOrders = true) (hB : Region.lexB .any l.toArray = true) (hC : C w.drew)
    (h : wpQuiet P l.toArray C (fun a' => ∀ w', C w' → Q .normal a' w') l a) : (Code.region id l.toArray true).wp P Q a w := wp_region_quiet hm hB hC (by simpa using h)
/-- The box of a move. -/
theorem mv_box {w W0 : World} {B : Nat} {p n c : Int} {r : Bool} {T : TypeId} (h : w.alloc (.cells #[.pointer (some ⟨B, 0, none⟩), .int .i64 p, .int .i64 n, .int .i64 c, .bool r] T) = W0) :
    W0.cell? ⟨w.heap.size, 0, none⟩ = some (.pointer (some ⟨B, 0, none⟩)) ∧ W0.cell? ⟨w.heap.size, 1, none⟩ = some (.int .i64 p) ∧ W0.cell? ⟨w.heap.size, 2, none⟩ = some (.int .i64 n) ∧ W0.cell? ⟨w.heap.size, 3, none⟩ = some (.int .i64 c) ∧
      W0.cell? ⟨w.heap.size, 4, none⟩ = some (.bool r) ∧ Below w.heap.size w W0 := by
  have hb := World.alloc_heap_new w (.cells #[.pointer (some ⟨B, 0, none⟩), .int .i64 p, .int .i64 n, .int .i64 c, .bool r] T)
  have hB := balloc w (.cells #[.pointer (some ⟨B, 0, none⟩), .int .i64 p, .int .i64 n, .int .i64 c, .bool r] T)
  rw [h] at hb hB
  exact ⟨by rw [cell_of_row _ _ _ _ _ _ hb]; rfl, by rw [cell_of_row _ _ _ _ _ _ hb]; rfl, by rw [cell_of_row _ _ _ _ _ _ hb]; rfl, by rw [cell_of_row _ _ _ _ _ _ hb]; rfl, by rw [cell_of_row _ _ _ _ _ _ hb]; rfl, hB⟩
set_option maxRecDepth 100000 in
theorem rule3_any (p n c : Int) (r : Bool) (w : World) {B : AB} {O : List Nat} {ns : List Nd} (hA : ArW B O ns w) (hf : Fit ns) :
    Calls Tryz.prog 192 #[mvV B p n c r] w (Ret w (.bool (c != 0 && parOf ns c != p))) := by
  have H1 := Lib.hid (fun w' (hb : Below w.heap.size w w') => Parent_any c w' (hA.later hb) hf.len)
  have HB0 := Lib.hid (fun o => balloc w o)
  rw [show (if isH ns.length c then ((ndAt ns c).parent : Int) else 0) = parOf ns c from rfl] at H1
  generalize parOf ns c = q at *
  unfold mvV
  clear hA hf
  by_cases hc0 : c = 0
  · subst hc0
    go_enter Tryz.func192, Tryz.ntmps192
    go_wp2_with fail
    generalize hW : w.alloc _ = W0
    obtain ⟨m0, m1, m2, m3, m4, mb⟩ := mv_box hW
    have MB := Lib.hid mb
    clear hW mb
    go_quiet (fail)
    go_wp2_with fail
    go_ret
    exact Ret.mk (by simp [*]) (bdrewsA MB.out _)
  · have hc : (c != 0) = true := by simpa using hc0
    go_enter Tryz.func192, Tryz.ntmps192
    go_wp2_with fail
    generalize hW : w.alloc _ = W0
    obtain ⟨m0, m1, m2, m3, m4, mb⟩ := mv_box hW
    have MB := Lib.hid mb
    clear hW mb
    go_quiet ((go_at_call 15; exact quiet_leftA (H1.out _ (bdrewsA MB.out _))))
    go_wp2_with fail
    go_ret
    exact Ret.mk (by simp [*]) (bdrewsA MB.out _)
set_option maxRecDepth 100000 in
theorem rule4_any (p n c : Int) (r : Bool) (w : World) {B : AB} {O : List Nat} {ns : List Nd} (hA : ArW B O ns w) (hf : Fit ns) :
    Calls Tryz.prog 193 #[mvV B p n c r] w (Ret w (.bool (kdA ns n == 1))) := by
  have H1 := Lib.hid (fun w' (hb : Below w.heap.size w w') => kind_any n w' (hA.later hb) hf)
  rw [show (descAt ns n).kind = kdA ns n from rfl] at H1
  have HB0 := Lib.hid (fun o => balloc w o)
  generalize kdA ns n = k at *
  unfold mvV
  clear hA hf
  go_enter Tryz.func193, Tryz.ntmps193
  go_wp2_with (go_at_call 81; refine (H1.out _ (HB0.out _)).mono ?_; rintro e w1 ⟨rfl, b1⟩)
  go_ret
  exact Ret.mk rfl (bthen (HB0.out _) (HB0.out _).size b1)
/-- The fifth rule. -/
def rul5 (kp kn : Int) : Bool := (kp == 1 && kn == 5) || (!(kp == 1) && kn == 3)
set_option maxRecDepth 100000 in
set_option maxHeartbeats 4000000 in
theorem rule5_any (p n c : Int) (r : Bool) (w : World) {B : AB} {O : List Nat} {ns : List Nd} (hA : ArW B O ns w) (hf : Fit ns) :
    Calls Tryz.prog 194 #[mvV B p n c r] w (Ret w (.bool (rul5 (kdA ns p) (kdA ns n)))) := by
  have H1 := Lib.hid (fun w' (hb : Below w.heap.size w w') => kind_any p w' (hA.later hb) hf)
  have H2 := Lib.hid (fun w' (hb : Below w.heap.size w w') => kind_any n w' (hA.later hb) hf)
  rw [show (descAt ns n).kind = kdA ns n from rfl] at H2
  rw [show (descAt ns p).kind = kdA ns p from rfl] at H1
  generalize kdA ns n = kn at *
  generalize kdA ns p = kp at *
  unfold mvV rul5
  clear hA hf
  go_enter Tryz.func194, Tryz.ntmps194
  go_wp2_with fail
  generalize hW : w.alloc _ = W0
  obtain ⟨m0, m1, m2, m3, m4, mb⟩ := mv_box hW
  have mb' := bdrewA mb
  have MV := MvAt.start hW
  clear hW mb mb'
  have hC0 : MvAt B p n c r w W0.drew := MV.drew
  obtain ⟨C, hC⟩ : ∃ C : World → Prop, C = MvAt B p n c r w := ⟨_, rfl⟩
  rw [← hC] at hC0
  have HCC := Lib.hid hC
  clear hC MV m0 m1 m2 m3 m4
  refine region_class C (by kernel_rfl) (by kernel_rfl) hC0 ?_
  iterate 4
    refine wpQuiet_step (fun K hK => ?_)
    go_simp
    apply Exists.intro
    refine ⟨fun W hW => ?_, hK _ ?_⟩
    · first
        | exact rfl
        | (rw [HCC.out] at hW; obtain ⟨m0, m1, m2, m3, m4⟩ := hW.cells; go_simp; exact rfl)
    clear hK K
  refine wpQuiet_step (fun K hK => ?_)
  go_simp
  apply Exists.intro
  refine ⟨fun W hW => ?_, hK _ ?_⟩
  · rw [HCC.out] at hW
    refine (H1.out _ hW.bl).mono ?_
    rintro e w1 ⟨rfl, b1⟩
    exact ⟨rfl, by rw [HCC.out]; exact hW.step b1⟩
  clear hK K
  iterate 5
    refine wpQuiet_step (fun K hK => ?_)
    go_simp
    apply Exists.intro
    refine ⟨fun W hW => ?_, hK _ ?_⟩
    · first
        | exact rfl
        | (rw [HCC.out] at hW; obtain ⟨m0, m1, m2, m3, m4⟩ := hW.cells; go_simp; exact rfl)
    clear hK K
  refine wpQuiet_step (fun K hK => ?_)
  go_simp
  apply Exists.intro
  refine ⟨fun W hW => ?_, hK _ ?_⟩
  · rw [HCC.out] at hW
    refine (H2.out _ hW.bl).mono ?_
    rintro e w1 ⟨rfl, b1⟩
    exact ⟨rfl, by rw [HCC.out]; exact hW.step b1⟩
  clear hK K
  iterate 2
    refine wpQuiet_step (fun K hK => ?_)
    go_simp
    apply Exists.intro
    refine ⟨fun W hW => ?_, hK _ ?_⟩
    · first
        | exact rfl
        | (rw [HCC.out] at hW; obtain ⟨m0, m1, m2, m3, m4⟩ := hW.cells; go_simp; exact rfl)
    clear hK K
  refine wpQuiet_nil ?_
  intro W2 hW2
  rw [HCC.out] at hW2
  have HB := Lib.hid hW2.bl
  clear hW2 HCC hC0 H1 H2
  have HBB := HB
  cases h1 : (kp == 1)
  all_goals
    cases h2 : (kn == 5)
    all_goals
      go_wp2_with fail
      all_goals
        go_ret
        exact Ret.mk (by first | (simp [h1, h2]; done) | (simp [h1]; done) | simp_all) HB.out
end Go.Proofs.YtdapdadcninidaaGreatDoor
/- Package dom: the last rule, at a parent without children; the first rule that refuses. No condition but that the arena fits. -/
namespace Go.Proofs.YtdapdadcninidaaGreatDoor
open Go.RowKit
attribute [local go_sem ↓] Go.wp_at_zero Go.wp_at_succ

set_option maxRecDepth 100000 in
/-- Is this kind among these? -/
theorem kIndex_any (ks : List Int) (v : Int) (w : World) {a : Option Addr} {c : Nat} (hl : ks.length ≤ 1000000) (hc : ∀ j k, ks[j]? = some k → ∃ g, a = some ⟨g, 0, none⟩ ∧ w.cell? ⟨g, j, none⟩ = some (.int .i64 k)) :
    Calls Tryz.prog 229 #[.slice a ks.length c, .int .i64 v] w fun e w' => (∃ i : Int, e = .returned (.int .i64 i) ∧ decide (0 ≤ i) = ks.contains v) ∧ w = w' := by
  have HC := Lib.hid hc
  obtain ⟨b, hb⟩ : ∃ b, ks.contains v = b := ⟨_, rfl⟩
  rw [hb]
  have HBV := Lib.hid hb
  clear hc hb
  go_enter Tryz.func229, Tryz.ntmps229
  go_wp2
  go_loop [4, 5, 8] (fun _ _ i => ∃ k : Nat, k ≤ ks.length ∧ i = .int .i64 k ∧ (ks.take k).contains v = false) (fun _ _ i => ks.length - (intOf i).toNat)
  case atStart => exact ⟨0, Nat.zero_le _, rfl, rfl⟩
  case round =>
    obtain ⟨k, hk, rfl, hall⟩ := hrel
    have HA := Lib.hid hall
    clear hall
    by_cases hlt : k < ks.length
    · obtain ⟨g, rfl, hcell⟩ := HC.out k ks[k] (List.getElem?_eq_getElem hlt)
      obtain ⟨z, hz⟩ : ∃ z, ks[k] = z := ⟨_, rfl⟩
      rw [hz] at hcell
      have hki : (k : Int) < (ks.length : Int) := by omega
      by_cases hb : v = z
      · have HR : Hid (b = true) := Lib.hid (by
          rw [← HBV.out, List.contains_iff_mem, hb, ← hz]
          exact List.getElem_mem hlt)
        subst hb
        clear hz
        go_wp2
        go_ret
        exact ⟨⟨_, rfl, by rw [HR.out]; simp⟩, rfl⟩
      · have HN : Hid ((ks.take (k + 1)).contains v = false) := Lib.hid (by
          rw [List.take_succ_eq_append_getElem hlt, hz]
          have := HA.out
          simp only [List.contains_eq_mem, decide_eq_false_iff_not, List.mem_append, List.mem_singleton, not_or] at this ⊢
          exact ⟨this, hb⟩)
        have hb2 : (v == z) = false := by simpa using hb
        clear hz
        go_wp2
        go_round
        case rel => exact ⟨k + 1, by omega, by go_num, HN.out⟩
        case measure => simp [intOf]; omega
    · have HR : Hid (b = false) := Lib.hid (by
        have := HA.out
        rwa [List.take_of_length_le (by omega), HBV.out] at this)
      go_wp2
      go_ret
      exact ⟨⟨_, rfl, by rw [HR.out]; rfl⟩, rfl⟩
set_option maxRecDepth 100000 in
theorem kContains_any (ks : List Int) (v : Int) (w : World) {a : Option Addr} {c : Nat} (hl : ks.length ≤ 1000000) (hc : ∀ j k, ks[j]? = some k → ∃ g, a = some ⟨g, 0, none⟩ ∧ w.cell? ⟨g, j, none⟩ = some (.int .i64 k)) :
    Calls Tryz.prog 221 #[.slice a ks.length c, .int .i64 v] w fun e w' => e = .returned (.bool (ks.contains v)) ∧ w = w' := by
  have H1 := Lib.hid (kIndex_any ks v w (c := c) hl hc)
  clear hc
  generalize ks.contains v = b at *
  go_enter Tryz.func221, Tryz.ntmps221
  go_wp2_with fail
  refine H1.out.mono ?_
  rintro e w1 ⟨⟨i, rfl, hi⟩, rfl⟩
  have HI := Lib.hid hi
  clear hi
  go_wp2_with fail
  go_ret
  exact ⟨by simp [HI.out], rfl⟩
set_option maxRecDepth 100000 in
/-- split, of a parent without children. -/
theorem split_nil (p n c : Int) (r : Bool) (w : World) {B : AB} {O : List Nat} {ns : List Nd} (hA : ArW B O ns w) (hf : Fit ns) (hk : kidsAt ns p = []) :
    Calls Tryz.prog 220 #[mvV B p n c r] w (Ret w (.tuple #[.slice none 0 0, .slice none 0 0])) := by
  have H1 := fun w' (hb : Below w.heap.size w w') => Kids_any p w' (hA.later hb) hf.len (hf.kids p)
  rw [hk] at H1
  have H1 := Lib.hid H1
  unfold mvV
  clear hA hf hk
  go_enter Tryz.func220, Tryz.ntmps220
  go_wp2_with fail
  generalize hW : w.alloc _ = W0
  obtain ⟨m0, m1, m2, m3, m4, mb⟩ := mv_box hW
  have MB := Lib.hid mb
  clear hW mb
  go_wp2_with fail
  refine (H1.out _ MB.out).mono ?_
  rintro e w1 ⟨v, rfl, hr, b1⟩
  obtain ⟨ka, kc, rfl⟩ := ownsRow_slice hr
  have HB1 := Lib.hid (bthen MB.out MB.out.size b1)
  clear hr b1 H1 m0 m1 m2 m3 m4
  go_wp2_with fail
  go_loop [2, 3, 13] (fun s2 s3 i => s2 = .slice none 0 0 ∧ s3 = .slice none 0 0 ∧ i = .int .i64 0) (fun _ _ _ => 0)
  case atStart => exact ⟨rfl, rfl, rfl⟩
  case round =>
    obtain ⟨rfl, rfl, rfl⟩ := hrel
    go_wp2_with fail
    go_ret2
    exact Ret.mk rfl HB1.out
theorem nilKinds (w : World) : ∀ (j : Nat) (k : Int), ([] : List Int)[j]? = some k → ∃ g, (none : Option Addr) = some ⟨g, 0, none⟩ ∧ w.cell? ⟨g, j, none⟩ = some (.int .i64 k) := fun j k h => by simp at h
theorem kCon_nil (v : Int) (w : World) (c : Nat) : Calls Tryz.prog 221 #[.slice none 0 c, .int .i64 v] w fun e w' => e = .returned (.bool false) ∧ w = w' :=
  kContains_any [] v w (a := none) (c := c) (Nat.zero_le _) (nilKinds w)
set_option maxRecDepth 100000 in
/-- element, of a parent without children, at its end. -/
theorem element_nil (p n : Int) (r : Bool) (w : World) {B : AB} {O : List Nat} {ns : List Nd} (hA : ArW B O ns w) (hf : Fit ns) (hk : kidsAt ns p = []) :
    Calls Tryz.prog 210 #[mvV B p n 0 r] w (Ret w (.bool false)) := by
  have H1 := Lib.hid (fun w' (hb : Below w.heap.size w w') => split_nil p n 0 r w' (hA.later hb) hf hk)
  have H2 := Lib.hid (fun v w' c => kCon_nil v w' c)
  unfold mvV at *
  clear hA hf hk
  go_enter Tryz.func210, Tryz.ntmps210
  go_wp2_with fail
  generalize hW : w.alloc _ = W0
  obtain ⟨m0, m1, m2, m3, m4, mb⟩ := mv_box hW
  have MB := Lib.hid mb
  clear hW mb
  go_wp2_with fail
  refine (H1.out _ MB.out).mono ?_
  rintro e w1 ⟨rfl, b1⟩
  have HB1 := Lib.hid (bthen MB.out MB.out.size b1)
  have hbx := World.block_lt_of_cell? _ _ m0
  have k0 := (b1.cell (p := ⟨w.heap.size, 0, none⟩) hbx).trans m0
  have k3 := (b1.cell (p := ⟨w.heap.size, 3, none⟩) hbx).trans m3
  have k4 := (b1.cell (p := ⟨w.heap.size, 4, none⟩) hbx).trans m4
  clear b1 H1 m0 m1 m2 m3 m4 hbx
  cases r
  all_goals
    go_wp2_with (go_at_call 221; refine (H2.out _ _ _).mono ?_; rintro e w2 ⟨rfl, rfl⟩)
    go_ret
    exact Ret.mk rfl HB1.out
set_option maxRecDepth 100000 in
/-- crowded, of an element, at the end of a parent without children. -/
theorem crowded_nil (p n : Int) (r : Bool) (w : World) {B : AB} {O : List Nat} {ns : List Nd} (hA : ArW B O ns w) (hf : Fit ns) (hk : kidsAt ns p = []) (hn : kdA ns n = 4) :
    Calls Tryz.prog 196 #[mvV B p n 0 r] w (Ret w (.bool false)) := by
  have H1 := fun w' (hb : Below w.heap.size w w') => kind_any n w' (hA.later hb) hf
  rw [show (descAt ns n).kind = kdA ns n from rfl, hn] at H1
  have H1 := Lib.hid H1
  have H2 := Lib.hid (fun w' (hb : Below w.heap.size w w') => element_nil p n r w' (hA.later hb) hf hk)
  unfold mvV at *
  clear hA hf hk hn
  go_enter Tryz.func196, Tryz.ntmps196
  go_wp2_with fail
  generalize hW : w.alloc _ = W0
  have MV := MvAt.start hW
  obtain ⟨m0, m1, m2, m3, m4⟩ := MV.cells
  clear hW
  go_wp2_with fail
  refine (H1.out _ MV.bl).mono ?_
  rintro e w1 ⟨rfl, b1⟩
  have mv1 := MV.step b1
  have rb := Lib.hid mv1.box
  clear b1 H1 m0 m1 m2 m3 m4 MV
  obtain ⟨m0, m1, m2, m3, m4⟩ := mv1.cells
  go_wp2_with fail
  refine (H2.out _ mv1.bl).mono ?_
  rintro e w2 ⟨rfl, b2⟩
  have mv2 := Lib.hid (mv1.step b2).bl
  clear b2 m0 m1 m2 m3 m4 mv1
  go_wp2_with fail
  go_ret
  exact Ret.mk rfl mv2.out
/-- The last rule, at a parent that is no document. -/
theorem rule6_no (p n c : Int) (r : Bool) (w : World) {B : AB} {O : List Nat} {ns : List Nd} (hA : ArW B O ns w) (hf : Fit ns) (hp : kdA ns p ≠ 1) :
    Calls Tryz.prog 195 #[mvV B p n c r] w (Ret w (.bool false)) := by
  have H1 := Lib.hid (fun w' (hb : Below w.heap.size w w') => kind_any p w' (hA.later hb) hf)
  rw [show (descAt ns p).kind = kdA ns p from rfl] at H1
  generalize kdA ns p = kp at *
  have hpb : (kp == 1) = false := by simpa using hp
  unfold mvV at *
  clear hA hf hp
  go_enter Tryz.func195, Tryz.ntmps195
  go_wp2_with fail
  generalize hW : w.alloc _ = W0
  have MV := MvAt.start hW
  obtain ⟨m0, m1, m2, m3, m4⟩ := MV.cells
  clear hW
  go_wp2_with fail
  refine (H1.out _ MV.bl).mono ?_
  rintro e w1 ⟨rfl, b1⟩
  have mv1 := Lib.hid (MV.step b1).bl
  clear b1 H1 m0 m1 m2 m3 m4 MV
  go_wp2_with fail
  go_ret
  exact Ret.mk rfl mv1.out
/-- .. at a document without children. -/
theorem rule6_nil (p n : Int) (r : Bool) (w : World) {B : AB} {O : List Nat} {ns : List Nd} (hA : ArW B O ns w) (hf : Fit ns) (hp : kdA ns p = 1) (hk : kidsAt ns p = []) (hn : kdA ns n = 4) :
    Calls Tryz.prog 195 #[mvV B p n 0 r] w (Ret w (.bool false)) := by
  have H1 := fun w' (hb : Below w.heap.size w w') => kind_any p w' (hA.later hb) hf
  rw [show (descAt ns p).kind = kdA ns p from rfl, hp] at H1
  have H1 := Lib.hid H1
  have H2 := Lib.hid (fun w' (hb : Below w.heap.size w w') => crowded_nil p n r w' (hA.later hb) hf hk hn)
  unfold mvV at *
  clear hA hf hk hn hp
  go_enter Tryz.func195, Tryz.ntmps195
  go_wp2_with fail
  generalize hW : w.alloc _ = W0
  have MV := MvAt.start hW
  obtain ⟨m0, m1, m2, m3, m4⟩ := MV.cells
  clear hW
  go_wp2_with fail
  refine (H1.out _ MV.bl).mono ?_
  rintro e w1 ⟨rfl, b1⟩
  have mv1 := MV.step b1
  clear b1 H1 m0 m1 m2 m3 m4 MV
  obtain ⟨m0, m1, m2, m3, m4⟩ := mv1.cells
  go_wp2_with fail
  refine (H2.out _ mv1.bl).mono ?_
  rintro e w2 ⟨rfl, b2⟩
  have mv2 := Lib.hid (mv1.step b2).bl
  clear b2 m0 m1 m2 m3 m4 mv1
  go_wp2_with fail
  go_ret
  exact Ret.mk rfl mv2.out
end Go.Proofs.YtdapdadcninidaaGreatDoor
/- Package dom: the first rule that refuses a move. No condition but the rules' own answers. -/
namespace Go.Proofs.YtdapdadcninidaaGreatDoor
open Go.RowKit
attribute [local go_sem ↓] Go.wp_at_zero Go.wp_at_succ

theorem run_store_func {P : Program} {w : World} {a : Addr} {m : Mode} (fn : Fn) (x y : Array Value) : (store a (.func fn x y) m).run P w = stored P w a (.func fn x y) m := run_store P w a _ m rfl
attribute [local go_sem] run_store_func
def rulesRow : Array Value := #[.func (.func 190) #[] #[], .int .i64 4, .func (.func 191) #[] #[], .int .i64 4, .func (.func 192) #[] #[], .int .i64 5,
  .func (.func 193) #[] #[], .int .i64 4, .func (.func 194) #[] #[], .int .i64 4, .func (.func 195) #[] #[], .int .i64 4]
set_option maxRecDepth 100000 in
theorem rules_any (w : World) : Calls Tryz.prog 161 #[] w fun e w' => e = .returned (.slice (some ⟨w.heap.size, 0, none⟩) 6 6) ∧ w' = w.alloc (.cells rulesRow 211) := by
  go_enter Tryz.func161, Tryz.ntmps161
  go_wp2_with fail
  go_ret
  exact ⟨rfl, rfl⟩
/-- The rules' answers. -/
structure RulB (b1 b2 b3 b4 b5 b6 : Bool) (m : Value) (w : World) : Prop where
  h1 : ∀ w', Below w.heap.size w w' → Calls Tryz.prog 190 #[m] w' (Ret w' (.bool b1))
  h2 : ∀ w', Below w.heap.size w w' → Calls Tryz.prog 191 #[m] w' (Ret w' (.bool b2))
  h3 : ∀ w', Below w.heap.size w w' → Calls Tryz.prog 192 #[m] w' (Ret w' (.bool b3))
  h4 : ∀ w', Below w.heap.size w w' → Calls Tryz.prog 193 #[m] w' (Ret w' (.bool b4))
  h5 : ∀ w', Below w.heap.size w w' → Calls Tryz.prog 194 #[m] w' (Ret w' (.bool b5))
  h6 : ∀ w', Below w.heap.size w w' → Calls Tryz.prog 195 #[m] w' (Ret w' (.bool b6))
def firstE (b1 b2 b3 b4 b5 b6 : Bool) : Int := if b1 then 4 else if b2 then 4 else if b3 then 5 else if b4 then 4 else if b5 then 4 else if b6 then 4 else 0
set_option maxRecDepth 100000 in
set_option maxHeartbeats 2000000 in
theorem refused_any (p n c : Int) (r : Bool) (w : World) {B : Nat} {b1 b2 b3 b4 b5 b6 : Bool} (hR : RulB b1 b2 b3 b4 b5 b6 (mvV B p n c r) w) :
    Calls Tryz.prog 118 #[mvV B p n c r] w (Ret w (.int .i64 (firstE b1 b2 b3 b4 b5 b6))) := by
  have HR := Lib.hid hR
  have HQ := Lib.hid rules_any
  clear hR
  unfold mvV at *
  go_enter Tryz.func118, Tryz.ntmps118
  go_wp2_with fail
  generalize hW : w.alloc _ = W0
  have mb : W0.heap[w.heap.size]? = some (.cells #[.pointer (some ⟨B, 0, none⟩), .int .i64 p, .int .i64 n, .int .i64 c, .bool r] 173 (0, 0)) := by rw [← hW]; exact World.alloc_heap_new w _
  have hB := balloc w (.cells #[.pointer (some ⟨B, 0, none⟩), .int .i64 p, .int .i64 n, .int .i64 c, .bool r] 173)
  rw [hW] at hB
  have hs0 : W0.heap.size = w.heap.size + 1 := by rw [← hW]; simp
  refine (HQ.out W0).mono ?_
  rintro e w1 ⟨rfl, rfl⟩
  generalize hW1 : W0.alloc _ = W1
  have rb : W1.heap[W0.heap.size]? = some (.cells rulesRow 211 (0, 0)) := by rw [← hW1]; exact World.alloc_heap_new W0 _
  have hB1 : Below w.heap.size w W1 := by rw [← hW1]; exact hB.alloc hB.size _
  have mb1 : W1.heap[w.heap.size]? = some (.cells #[.pointer (some ⟨B, 0, none⟩), .int .i64 p, .int .i64 n, .int .i64 c, .bool r] 173 (0, 0)) := by rw [← hW1]; exact (Below.heap_alloc W0 _ _ (by omega)).trans mb
  rw [hs0] at rb ⊢
  have hs1 : W1.heap.size = w.heap.size + 2 := by rw [← hW1]; simp [hs0]
  have HB1 := Lib.hid hB1; have RB := Lib.hid rb; have MB := Lib.hid mb1; have HS1 := Lib.hid hs1
  clear hW hW1 mb hB hs0 rb hB1 mb1 hs1 HQ
  go_wp2_with fail
  go_loopw [7] (fun i wr => ∃ k : Nat, k ≤ 6 ∧ i = .int .i64 k ∧ Below (w.heap.size + 2) W1 wr ∧ w.heap.size + 2 ≤ wr.heap.size ∧ (0 < k → b1 = false) ∧ (1 < k → b2 = false) ∧ (2 < k → b3 = false) ∧ (3 < k → b4 = false) ∧ (4 < k → b5 = false) ∧ (5 < k → b6 = false)) (fun i _ => 6 - (intOf i).toNat)
  case atStart => exact ⟨0, Nat.zero_le _, rfl, by rw [← HS1.out]; exact Below.refl _ _, by rw [HS1.out]; exact Nat.le_refl _, by omega, by omega, by omega, by omega, by omega, by omega⟩
  case round =>
    obtain ⟨k, hk, rfl, hbw, hsw, hall⟩ := hrel
    have HA := Lib.hid hall
    have rbw := (hbw.block (w.heap.size + 1) (by omega)).trans RB.out
    have mbw := (hbw.block w.heap.size (by omega)).trans MB.out
    have hbb : Below w.heap.size w wr := HB1.out.trans (hbw.mono (by omega))
    have HBB := Lib.hid hbb; have HBW := Lib.hid hbw; have HSW := Lib.hid hsw
    have mbo : ∀ o, (wr.alloc o).heap[w.heap.size]? = some (.cells #[.pointer (some ⟨B, 0, none⟩), .int .i64 p, .int .i64 n, .int .i64 c, .bool r] 173 (0, 0)) := fun o => (Below.heap_alloc wr o _ (by omega)).trans mbw
    have q0 : ∀ o, (wr.alloc o).cell? ⟨w.heap.size, 0, none⟩ = some (.pointer (some ⟨B, 0, none⟩)) := fun o => by rw [cell_of_row _ _ _ _ _ _ (mbo o)]; rfl
    have q1 : ∀ o, (wr.alloc o).cell? ⟨w.heap.size, 1, none⟩ = some (.int .i64 p) := fun o => by rw [cell_of_row _ _ _ _ _ _ (mbo o)]; rfl
    have q2 : ∀ o, (wr.alloc o).cell? ⟨w.heap.size, 2, none⟩ = some (.int .i64 n) := fun o => by rw [cell_of_row _ _ _ _ _ _ (mbo o)]; rfl
    have q3 : ∀ o, (wr.alloc o).cell? ⟨w.heap.size, 3, none⟩ = some (.int .i64 c) := fun o => by rw [cell_of_row _ _ _ _ _ _ (mbo o)]; rfl
    have q4 : ∀ o, (wr.alloc o).cell? ⟨w.heap.size, 4, none⟩ = some (.bool r) := fun o => by rw [cell_of_row _ _ _ _ _ _ (mbo o)]; rfl
    have HRB := Lib.hid rbw
    clear hall rbw mbw hbb hbw hsw mbo
    rcases (show k = 6 ∨ k = 0 ∨ k = 1 ∨ k = 2 ∨ k = 3 ∨ k = 4 ∨ k = 5 by omega) with rfl | rfl | rfl | rfl | rfl | rfl | rfl
    · have HV : Hid (firstE b1 b2 b3 b4 b5 b6 = 0) := Lib.hid (by
        obtain ⟨h1, h2, h3, h4, h5, h6⟩ := HA.out
        rw [h1 (by omega), h2 (by omega), h3 (by omega), h4 (by omega), h5 (by omega), h6 (by omega)]; rfl)
      go_wp2
      go_ret
      exact Ret.mk (by rw [HV.out]; rfl) HBB.out
    · have r0 : wr.cell? ⟨w.heap.size + 1, 0, none⟩ = some (.func (.func 190) #[] #[]) := by rw [cell_of_row _ _ _ _ _ _ HRB.out]; rfl
      have r1 : wr.cell? ⟨w.heap.size + 1, 1, none⟩ = some (.int .i64 4) := by rw [cell_of_row _ _ _ _ _ _ HRB.out]; rfl
      go_wp2_with fail
      refine (HR.out.h1 _ (HBB.out.alloc HBB.out.size _)).mono ?_
      rintro e w3 ⟨rfl, b3⟩
      have e1 : w3.cell? ⟨wr.heap.size, 1, none⟩ = some (.int .i64 4) := (b3.cell (p := ⟨wr.heap.size, 1, none⟩) (by simp)).trans (by simp)
      have HB3 := Lib.hid (bthen (HBB.out.alloc HBB.out.size _) (Nat.le_trans HBB.out.size (by simp)) b3)
      have HL3 := Lib.hid ((HBW.out.trans ((balloc wr _).mono HSW.out)).trans (b3.mono (by have := HSW.out; simp; omega)))
      have HS3 := Lib.hid (show w.heap.size + 2 ≤ w3.heap.size by have := HSW.out; have := b3.size; simp at this; omega)
      clear b3 r0 r1 q0 q1 q2 q3 q4
      cases hb : b1
      · have HN := Lib.hid hb
        clear hb
        go_wp2_with fail
        go_roundw
        case rel => exact ⟨1, by omega, rfl, HL3.out, HS3.out, fun _ => HN.out, fun h => absurd h (by omega), fun h => absurd h (by omega), fun h => absurd h (by omega), fun h => absurd h (by omega), fun h => absurd h (by omega)⟩
        case measure => simp [intOf]
      · have HV : Hid (firstE b1 b2 b3 b4 b5 b6 = 4) := Lib.hid (by rw [hb]; rfl)
        clear hb
        go_wp2_with fail
        go_ret
        exact Ret.mk (by rw [HV.out]; rfl) HB3.out
    · have r0 : wr.cell? ⟨w.heap.size + 1, 2, none⟩ = some (.func (.func 191) #[] #[]) := by rw [cell_of_row _ _ _ _ _ _ HRB.out]; rfl
      have r1 : wr.cell? ⟨w.heap.size + 1, 3, none⟩ = some (.int .i64 4) := by rw [cell_of_row _ _ _ _ _ _ HRB.out]; rfl
      go_wp2_with fail
      refine (HR.out.h2 _ (HBB.out.alloc HBB.out.size _)).mono ?_
      rintro e w3 ⟨rfl, b3⟩
      have e1 : w3.cell? ⟨wr.heap.size, 1, none⟩ = some (.int .i64 4) := (b3.cell (p := ⟨wr.heap.size, 1, none⟩) (by simp)).trans (by simp)
      have HB3 := Lib.hid (bthen (HBB.out.alloc HBB.out.size _) (Nat.le_trans HBB.out.size (by simp)) b3)
      have HL3 := Lib.hid ((HBW.out.trans ((balloc wr _).mono HSW.out)).trans (b3.mono (by have := HSW.out; simp; omega)))
      have HS3 := Lib.hid (show w.heap.size + 2 ≤ w3.heap.size by have := HSW.out; have := b3.size; simp at this; omega)
      clear b3 r0 r1 q0 q1 q2 q3 q4
      cases hb : b2
      · have HN := Lib.hid hb
        clear hb
        go_wp2_with fail
        go_roundw
        case rel => exact ⟨2, by omega, rfl, HL3.out, HS3.out, fun _ => HA.out.1 (by omega), fun _ => HN.out, fun h => absurd h (by omega), fun h => absurd h (by omega), fun h => absurd h (by omega), fun h => absurd h (by omega)⟩
        case measure => simp [intOf]
      · have HV : Hid (firstE b1 b2 b3 b4 b5 b6 = 4) := Lib.hid (by rw [HA.out.1 (by omega)]; rw [hb]; rfl)
        clear hb
        go_wp2_with fail
        go_ret
        exact Ret.mk (by rw [HV.out]; rfl) HB3.out
    · have r0 : wr.cell? ⟨w.heap.size + 1, 4, none⟩ = some (.func (.func 192) #[] #[]) := by rw [cell_of_row _ _ _ _ _ _ HRB.out]; rfl
      have r1 : wr.cell? ⟨w.heap.size + 1, 5, none⟩ = some (.int .i64 5) := by rw [cell_of_row _ _ _ _ _ _ HRB.out]; rfl
      go_wp2_with fail
      refine (HR.out.h3 _ (HBB.out.alloc HBB.out.size _)).mono ?_
      rintro e w3 ⟨rfl, b3⟩
      have e1 : w3.cell? ⟨wr.heap.size, 1, none⟩ = some (.int .i64 5) := (b3.cell (p := ⟨wr.heap.size, 1, none⟩) (by simp)).trans (by simp)
      have HB3 := Lib.hid (bthen (HBB.out.alloc HBB.out.size _) (Nat.le_trans HBB.out.size (by simp)) b3)
      have HL3 := Lib.hid ((HBW.out.trans ((balloc wr _).mono HSW.out)).trans (b3.mono (by have := HSW.out; simp; omega)))
      have HS3 := Lib.hid (show w.heap.size + 2 ≤ w3.heap.size by have := HSW.out; have := b3.size; simp at this; omega)
      clear b3 r0 r1 q0 q1 q2 q3 q4
      cases hb : b3
      · have HN := Lib.hid hb
        clear hb
        go_wp2_with fail
        go_roundw
        case rel => exact ⟨3, by omega, rfl, HL3.out, HS3.out, fun _ => HA.out.1 (by omega), fun _ => HA.out.2.1 (by omega), fun _ => HN.out, fun h => absurd h (by omega), fun h => absurd h (by omega), fun h => absurd h (by omega)⟩
        case measure => simp [intOf]
      · have HV : Hid (firstE b1 b2 b3 b4 b5 b6 = 5) := Lib.hid (by rw [HA.out.1 (by omega)]; rw [HA.out.2.1 (by omega)]; rw [hb]; rfl)
        clear hb
        go_wp2_with fail
        go_ret
        exact Ret.mk (by rw [HV.out]; rfl) HB3.out
    · have r0 : wr.cell? ⟨w.heap.size + 1, 6, none⟩ = some (.func (.func 193) #[] #[]) := by rw [cell_of_row _ _ _ _ _ _ HRB.out]; rfl
      have r1 : wr.cell? ⟨w.heap.size + 1, 7, none⟩ = some (.int .i64 4) := by rw [cell_of_row _ _ _ _ _ _ HRB.out]; rfl
      go_wp2_with fail
      refine (HR.out.h4 _ (HBB.out.alloc HBB.out.size _)).mono ?_
      rintro e w3 ⟨rfl, b3⟩
      have e1 : w3.cell? ⟨wr.heap.size, 1, none⟩ = some (.int .i64 4) := (b3.cell (p := ⟨wr.heap.size, 1, none⟩) (by simp)).trans (by simp)
      have HB3 := Lib.hid (bthen (HBB.out.alloc HBB.out.size _) (Nat.le_trans HBB.out.size (by simp)) b3)
      have HL3 := Lib.hid ((HBW.out.trans ((balloc wr _).mono HSW.out)).trans (b3.mono (by have := HSW.out; simp; omega)))
      have HS3 := Lib.hid (show w.heap.size + 2 ≤ w3.heap.size by have := HSW.out; have := b3.size; simp at this; omega)
      clear b3 r0 r1 q0 q1 q2 q3 q4
      cases hb : b4
      · have HN := Lib.hid hb
        clear hb
        go_wp2_with fail
        go_roundw
        case rel => exact ⟨4, by omega, rfl, HL3.out, HS3.out, fun _ => HA.out.1 (by omega), fun _ => HA.out.2.1 (by omega), fun _ => HA.out.2.2.1 (by omega), fun _ => HN.out, fun h => absurd h (by omega), fun h => absurd h (by omega)⟩
        case measure => simp [intOf]
      · have HV : Hid (firstE b1 b2 b3 b4 b5 b6 = 4) := Lib.hid (by rw [HA.out.1 (by omega)]; rw [HA.out.2.1 (by omega)]; rw [HA.out.2.2.1 (by omega)]; rw [hb]; rfl)
        clear hb
        go_wp2_with fail
        go_ret
        exact Ret.mk (by rw [HV.out]; rfl) HB3.out
    · have r0 : wr.cell? ⟨w.heap.size + 1, 8, none⟩ = some (.func (.func 194) #[] #[]) := by rw [cell_of_row _ _ _ _ _ _ HRB.out]; rfl
      have r1 : wr.cell? ⟨w.heap.size + 1, 9, none⟩ = some (.int .i64 4) := by rw [cell_of_row _ _ _ _ _ _ HRB.out]; rfl
      go_wp2_with fail
      refine (HR.out.h5 _ (HBB.out.alloc HBB.out.size _)).mono ?_
      rintro e w3 ⟨rfl, b3⟩
      have e1 : w3.cell? ⟨wr.heap.size, 1, none⟩ = some (.int .i64 4) := (b3.cell (p := ⟨wr.heap.size, 1, none⟩) (by simp)).trans (by simp)
      have HB3 := Lib.hid (bthen (HBB.out.alloc HBB.out.size _) (Nat.le_trans HBB.out.size (by simp)) b3)
      have HL3 := Lib.hid ((HBW.out.trans ((balloc wr _).mono HSW.out)).trans (b3.mono (by have := HSW.out; simp; omega)))
      have HS3 := Lib.hid (show w.heap.size + 2 ≤ w3.heap.size by have := HSW.out; have := b3.size; simp at this; omega)
      clear b3 r0 r1 q0 q1 q2 q3 q4
      cases hb : b5
      · have HN := Lib.hid hb
        clear hb
        go_wp2_with fail
        go_roundw
        case rel => exact ⟨5, by omega, rfl, HL3.out, HS3.out, fun _ => HA.out.1 (by omega), fun _ => HA.out.2.1 (by omega), fun _ => HA.out.2.2.1 (by omega), fun _ => HA.out.2.2.2.1 (by omega), fun _ => HN.out, fun h => absurd h (by omega)⟩
        case measure => simp [intOf]
      · have HV : Hid (firstE b1 b2 b3 b4 b5 b6 = 4) := Lib.hid (by rw [HA.out.1 (by omega)]; rw [HA.out.2.1 (by omega)]; rw [HA.out.2.2.1 (by omega)]; rw [HA.out.2.2.2.1 (by omega)]; rw [hb]; rfl)
        clear hb
        go_wp2_with fail
        go_ret
        exact Ret.mk (by rw [HV.out]; rfl) HB3.out
    · have r0 : wr.cell? ⟨w.heap.size + 1, 10, none⟩ = some (.func (.func 195) #[] #[]) := by rw [cell_of_row _ _ _ _ _ _ HRB.out]; rfl
      have r1 : wr.cell? ⟨w.heap.size + 1, 11, none⟩ = some (.int .i64 4) := by rw [cell_of_row _ _ _ _ _ _ HRB.out]; rfl
      go_wp2_with fail
      refine (HR.out.h6 _ (HBB.out.alloc HBB.out.size _)).mono ?_
      rintro e w3 ⟨rfl, b3⟩
      have e1 : w3.cell? ⟨wr.heap.size, 1, none⟩ = some (.int .i64 4) := (b3.cell (p := ⟨wr.heap.size, 1, none⟩) (by simp)).trans (by simp)
      have HB3 := Lib.hid (bthen (HBB.out.alloc HBB.out.size _) (Nat.le_trans HBB.out.size (by simp)) b3)
      have HL3 := Lib.hid ((HBW.out.trans ((balloc wr _).mono HSW.out)).trans (b3.mono (by have := HSW.out; simp; omega)))
      have HS3 := Lib.hid (show w.heap.size + 2 ≤ w3.heap.size by have := HSW.out; have := b3.size; simp at this; omega)
      clear b3 r0 r1 q0 q1 q2 q3 q4
      cases hb : b6
      · have HN := Lib.hid hb
        clear hb
        go_wp2_with fail
        go_roundw
        case rel => exact ⟨6, by omega, rfl, HL3.out, HS3.out, fun _ => HA.out.1 (by omega), fun _ => HA.out.2.1 (by omega), fun _ => HA.out.2.2.1 (by omega), fun _ => HA.out.2.2.2.1 (by omega), fun _ => HA.out.2.2.2.2.1 (by omega), fun _ => HN.out⟩
        case measure => simp [intOf]
      · have HV : Hid (firstE b1 b2 b3 b4 b5 b6 = 4) := Lib.hid (by rw [HA.out.1 (by omega)]; rw [HA.out.2.1 (by omega)]; rw [HA.out.2.2.1 (by omega)]; rw [HA.out.2.2.2.1 (by omega)]; rw [HA.out.2.2.2.2.1 (by omega)]; rw [hb]; rfl)
        clear hb
        go_wp2_with fail
        go_ret
        exact Ret.mk (by rw [HV.out]; rfl) HB3.out
end Go.Proofs.YtdapdadcninidaaGreatDoor
