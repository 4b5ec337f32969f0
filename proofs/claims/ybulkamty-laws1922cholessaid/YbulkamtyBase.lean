/-
  OUR OWN. General laws for this seat's walks: 'Chg' (all blocks but those of a set are as they were), a map's block as a list of pairs, two pointers compared, an append inside a region that draws. No project text.
-/
import Derived.WalkKit
import Derived.WalkLawsBesides
import Derived.WalkSpells
import Derived.Deep.RegionLaw
import Derived.Deep.QuietTactic
import Derived.BigQuiet
import Derived.Maps.AppendAt
namespace Go.Proofs.Ybulkamty
open Go.RowKit Go.MapKept
set_option linter.unusedVariables false
set_option linter.unusedSectionVars false

/-! ### 'Chg S w w'': of the blocks that w has, those outside S are in w' as they were -/
structure Chg (S : Nat → Prop) (w w' : World) : Prop where
  os : w'.os = w.os
  tape : w'.tape = w.tape
  output : w'.output = w.output
  size : w.heap.size ≤ w'.heap.size
  block : ∀ k, k < w.heap.size → ¬ S k → w'.heap[k]? = w.heap[k]?

theorem Chg.rfl' (S : Nat → Prop) (w : World) : Chg S w w := ⟨rfl, rfl, rfl, Nat.le_refl _, fun _ _ _ => rfl⟩
theorem Chg.trans {S : Nat → Prop} {a b c : World} (h : Chg S a b) (k : Chg S b c) : Chg S a c :=
  ⟨k.os.trans h.os, k.tape.trans h.tape, k.output.trans h.output, Nat.le_trans h.size k.size, fun i hi hs => (k.block i (Nat.lt_of_lt_of_le hi h.size) hs).trans (h.block i hi hs)⟩
/-- Behind a first change a second may also touch blocks that the first has made. -/
theorem Chg.then {S T : Nat → Prop} {a b c : World} (h : Chg S a b) (k : Chg T b c) (hT : ∀ i, T i → S i ∨ a.heap.size ≤ i) : Chg S a c :=
  ⟨k.os.trans h.os, k.tape.trans h.tape, k.output.trans h.output, Nat.le_trans h.size k.size, fun i hi hs => (k.block i (Nat.lt_of_lt_of_le hi h.size) (fun ht => by rcases hT i ht with h' | h'; exact hs h'; omega)).trans (h.block i hi hs)⟩
theorem Chg.mono {S T : Nat → Prop} {w w' : World} (h : Chg S w w') (hs : ∀ k, S k → T k) : Chg T w w' :=
  ⟨h.os, h.tape, h.output, h.size, fun k hk ht => h.block k hk (fun q => ht (hs k q))⟩
theorem Chg.drew (S : Nat → Prop) (w : World) : Chg S w w.drew := ⟨rfl, rfl, rfl, Nat.le_refl _, fun _ _ _ => rfl⟩
theorem Chg.drewN (S : Nat → Prop) (w : World) (n : Nat) : Chg S w (w.drewN n) := ⟨rfl, rfl, rfl, Nat.le_refl _, fun _ _ _ => rfl⟩
theorem Chg.alloc (S : Nat → Prop) (w : World) (o : Obj) : Chg S w (w.alloc o) := ⟨rfl, rfl, rfl, by simp, fun k hk _ => Below.heap_alloc w o k hk⟩
theorem Chg.setCell (S : Nat → Prop) (w : World) (a : Addr) (v : Value) (h : S a.block) : Chg S w (w.setCell a v) :=
  ⟨rfl, rfl, rfl, by simp, fun k _ hs => heap_setCell_other w a k v (fun e => hs (e.symm ▸ h))⟩
theorem Chg.grown {S : Nat → Prop} {w w' : World} {row : Option Nat} (hg : w.grownBy w' row) (h : ∀ k, row = some k → S k) : Chg S w w' :=
  ⟨hg.os, hg.tape, hg.output, hg.size, fun k hk hs => hg.block k hk (fun e => hs (h k e.symm))⟩
theorem Chg.below {S : Nat → Prop} {w w' : World} (h : Chg S w w') {B : Nat} (hB : B ≤ w.heap.size) (hS : ∀ k, S k → B ≤ k) : Below B w w' :=
  ⟨h.os, h.tape, h.output, h.size, fun k hk => h.block k (by omega) (fun q => by have := hS k q; omega)⟩
/-- A block that is there and outside S is there as it was. -/
theorem Chg.at {S : Nat → Prop} {w w' : World} (h : Chg S w w') {k : Nat} {o : Obj} (hk : w.heap[k]? = some o) (hs : ¬ S k) : w'.heap[k]? = some o :=
  (h.block k (lt_of_block hk) hs).trans hk
theorem Chg.ownsRow {S : Nat → Prop} {w w' : World} (h : Chg S w w') {base : Nat} {e : TypeId} {size : Nat} {v : Value} {n : Nat} {xs : List Value} (ho : w.ownsRow base e size v n xs) (hs : ∀ k, v.ownBlock = some k → ¬ S k) : w'.ownsRow base e size v n xs := by
  refine ⟨ho.1, ?_⟩
  rcases ho.2 with hn | ⟨g, cap, cur, rfl, hb, hg, r⟩
  · exact .inl hn
  · exact .inr ⟨g, cap, cur, rfl, hb, h.at hg (hs g rfl), r⟩
/-- The block of an owned row is a row of its element type: so it is none of another kind. -/
theorem ownsRow_block {w : World} {base : Nat} {e : TypeId} {size : Nat} {v : Value} {n : Nat} {xs : List Value} (ho : w.ownsRow base e size v n xs) {k : Nat} (hk : v.ownBlock = some k) : ∃ cur, w.heap[k]? = some (.cells cur e (0, 0)) := by
  rcases ho.2 with ⟨rfl, _⟩ | ⟨g, cap, cur, rfl, hb, hg, r⟩
  · simp [Value.ownBlock] at hk
  · simp [Value.ownBlock] at hk; subst hk; exact ⟨cur, hg⟩
theorem ownsRow_form {w : World} {base : Nat} {e : TypeId} {size : Nat} {v : Value} {n : Nat} {xs : List Value} (ho : w.ownsRow base e size v n xs) (hn : 0 < n) :
    ∃ g cap cur, v = .slice (some ⟨g, 0, none⟩) n cap ∧ base ≤ g ∧ w.heap[g]? = some (.cells cur e (0, 0)) ∧ n ≤ cap ∧ cap ≤ maxLen ∧ cur.size = cap * size ∧ cur.toList.take (n * size) = xs := by
  rcases ho.2 with ⟨_, h⟩ | h
  · omega
  · exact h
/-- A cell of an owned row. -/
theorem ownsRow_cell {w : World} {base : Nat} {e : TypeId} {size : Nat} {g n cap : Nat} {xs : List Value} (ho : w.ownsRow base e size (.slice (some ⟨g, 0, none⟩) n cap) n xs) {j : Nat} {u : Value} (hj : xs[j]? = some u) : w.cell? ⟨g, j, none⟩ = some u := by
  have := ho.cells (g := g) rfl j u hj
  rwa [show (⟨g, 0, none⟩ : Addr).add j = ⟨g, j, none⟩ by unfold Addr.add; split <;> simp_all] at this
theorem ownsRow_free {w : World} {base : Nat} {e : TypeId} {size : Nat} {g n cap : Nat} {xs : List Value} (ho : w.ownsRow base e size (.slice (some ⟨g, 0, none⟩) n cap) n xs) (j : Nat) : w.frozen? ⟨g, j, none⟩ = false := by
  obtain ⟨cur, hg⟩ := ownsRow_block ho (k := g) rfl
  exact frozen_of_row w g j cur e hg
/-- An owned row behind a store into one of its cells. -/
theorem ownsRow_set {w : World} {base : Nat} {e : TypeId} {size : Nat} {g n cap : Nat} {xs : List Value} (ho : w.ownsRow base e size (.slice (some ⟨g, 0, none⟩) n cap) n xs) (j : Nat) (hj : j < xs.length) (u : Value) :
    (w.setCell ⟨g, j, none⟩ u).ownsRow base e size (.slice (some ⟨g, 0, none⟩) n cap) n (xs.set j u) := by
  refine ⟨by rw [List.length_set]; exact ho.1, ?_⟩
  rcases ho.2 with ⟨h, _⟩ | ⟨g', cap', cur, hv, hb, hg, hnc, hcm, hcs, ht⟩
  · cases h
  · simp only [Value.slice.injEq, Option.some.injEq, Addr.mk.injEq] at hv
    obtain ⟨⟨rfl, _, _⟩, _, rfl⟩ := hv
    have h1 := ho.1
    refine .inr ⟨g, cap, cur.setIfInBounds j u, rfl, hb, heap_setCell_same w g j cur e u hg, hnc, hcm, by simpa using hcs, ?_⟩
    rw [← ht, Array.toList_setIfInBounds, List.take_set]

/-! ### a map's block as a list of pairs -/
section
variable {K : Type} [DecidableEq K]

/-- 'Keys of type K, written as values by kv, are keys of Go type kt.' -/
structure KeyOk (P : Program) (kt : TypeId) (kv : K → Value) : Prop where
  desc : ∃ d, P.underlying kt = some d ∧ ∀ a, IsKey d (kv a)
  inj : ∀ a b, kv a = kv b → a = b

/-- Block b of w is a map that holds the pairs L, in this order. -/
def MapIs (w : World) (b : Nat) (kv : K → Value) (L : List (K × Value)) : Prop :=
  ∃ es clock, w.heap[b]? = some (.map es clock) ∧ es.toList.map (fun e => (e.key, e.val)) = L.map (fun p => (kv p.1, p.2))

variable {P : Program} {kt : TypeId} {kv : K → Value} {w : World} {b : Nat} {L : List (K × Value)}

theorem MapIs.made (w : World) (kv : K → Value) : MapIs (w.alloc (.map #[] 0)) w.heap.size kv [] := ⟨#[], 0, heap_alloc_new w _, rfl⟩
theorem MapIs.of_block {w' : World} (h : MapIs w b kv L) (hb : w'.heap[b]? = w.heap[b]?) : MapIs w' b kv L := by
  obtain ⟨es, c, h1, h2⟩ := h
  exact ⟨es, c, hb.trans h1, h2⟩
theorem MapIs.lt (h : MapIs w b kv L) : b < w.heap.size := by obtain ⟨_, _, h1, _⟩ := h; exact lt_of_block h1
theorem MapIs.kept {S : Nat → Prop} {w' : World} (h : MapIs w b kv L) (hc : Chg S w w') (hs : ¬ S b) : MapIs w' b kv L := h.of_block (hc.block b h.lt hs)
theorem MapIs.notCells (h : MapIs w b kv L) {c : Array Value} {t : TypeId} {f : Nat × Nat} : w.heap[b]? ≠ some (.cells c t f) := by
  obtain ⟨_, _, h1, _⟩ := h; rw [h1]; simp

theorem MapIs.len (h : MapIs w b kv L) {t k e : TypeId} (ht : P.underlying t = some (.map k e)) (ty : TypeId) : (Builtin.len_ #[t] ty #[.map (some b)]).run P w = .ok (.int .i64 L.length) w := by
  obtain ⟨es, c, h1, h2⟩ := h
  have hl : es.size = L.length := by have := congrArg List.length h2; simpa using this
  simp [Builtin.len_, run_underlying ht, MapKept.run_getObj_map h1, goInt, Result.andThen, hl]

theorem mem_key {es : Array MapEntry} (h2 : es.toList.map (fun e => (e.key, e.val)) = L.map (fun p => (kv p.1, p.2))) {x : MapEntry} (hx : x ∈ es.toList) : ∃ p ∈ L, x.key = kv p.1 ∧ x.val = p.2 := by
  have : (x.key, x.val) ∈ es.toList.map (fun e => (e.key, e.val)) := List.mem_map.2 ⟨x, hx, rfl⟩
  rw [h2, List.mem_map] at this
  obtain ⟨p, hp, he⟩ := this
  simp only [Prod.mk.injEq] at he
  exact ⟨p, hp, he.1.symm, he.2.symm⟩

theorem isKeys (ko : KeyOk P kt kv) {d : TypeDesc} (hd : ∀ a, IsKey d (kv a)) {es : Array MapEntry} (h2 : es.toList.map (fun e => (e.key, e.val)) = L.map (fun p => (kv p.1, p.2))) : ∀ x ∈ es.toList, IsKey d x.key := by
  intro x hx
  obtain ⟨p, _, h, _⟩ := mem_key h2 hx
  rw [h]; exact hd _

/-- The key's place, if it is there. -/
theorem find_spec (ko : KeyOk P kt kv) {d : TypeDesc} (hdd : P.underlying kt = some d) (hd : ∀ a, IsKey d (kv a)) {es : Array MapEntry} (h2 : es.toList.map (fun e => (e.key, e.val)) = L.map (fun p => (kv p.1, p.2))) (k : K) :
    (Instr.findNow d (kv k) es.toList 0 = some none ∧ ∀ p ∈ L, p.1 ≠ k) ∨ ∃ j v, Instr.findNow d (kv k) es.toList 0 = some (some (j, v)) ∧ L[j]? = some (k, v) := by
  rcases findNow_spec (hd k) es.toList 0 (isKeys ko hd h2) with ⟨h, hn⟩ | ⟨j, e, h, hj, hk⟩
  · refine .inl ⟨h, fun p hp hpk => ?_⟩
    have : (kv p.1, p.2) ∈ es.toList.map (fun e => (e.key, e.val)) := by rw [h2]; exact List.mem_map.2 ⟨p, hp, rfl⟩
    obtain ⟨x, hx, he⟩ := List.mem_map.1 this
    simp only [Prod.mk.injEq] at he
    exact hn x hx (by rw [he.1, hpk])
  · refine .inr ⟨j, e.val, by simpa using h, ?_⟩
    have : (es.toList.map (fun e => (e.key, e.val)))[j]? = some (e.key, e.val) := by rw [List.getElem?_map, hj]; rfl
    rw [h2, List.getElem?_map] at this
    cases hl : L[j]? with
    | none => rw [hl] at this; cases this
    | some p =>
      rw [hl] at this
      simp only [Option.map_some, Option.some.injEq, Prod.mk.injEq] at this
      have : p.1 = k := ko.inj _ _ (this.1.trans hk)
      obtain ⟨p1, p2⟩ := p
      simp_all

/-- 'v, ok := m[k]' and 'm[k]' where k is there. -/
theorem MapIs.look_hit (h : MapIs w b kv L) (ko : KeyOk P kt kv) {t e : TypeId} (ht : P.underlying t = some (.map kt e)) (k : K) (v : Value) (hn : (L.map (·.1)).Nodup) (hm : (k, v) ∈ L) (c : Bool) :
    (Instr.lookup t (.map (some b)) (kv k) c).run P w = .ok (if c then .tuple #[v, .bool true] else v) w := by
  obtain ⟨es, cl, h1, h2⟩ := h
  obtain ⟨d, hdd, hd⟩ := ko.desc
  rcases find_spec ko hdd hd h2 k with ⟨_, hno⟩ | ⟨j, v', hf, hj⟩
  · exact absurd rfl (hno _ hm)
  · have hv : v' = v := by
      obtain ⟨i, hi⟩ := List.mem_iff_getElem?.1 hm
      have e1 : (L.map (·.1))[j]? = some k := by rw [List.getElem?_map, hj]; rfl
      have e2 : (L.map (·.1))[i]? = some k := by rw [List.getElem?_map, hi]; rfl
      have hlt : j < (L.map (·.1)).length := by rcases Nat.lt_or_ge j (L.map (·.1)).length with h | h; exact h; rw [List.getElem?_eq_none h] at e1; cases e1
      have : j = i := (List.getElem?_inj hlt hn).1 (e1.trans e2.symm)
      subst this
      rw [hj] at hi; simpa using hi
    subst hv
    simp [Instr.lookup, run_underlying ht, MapKept.run_getObj_map h1, run_checkKey hdd (hd k), run_findKey hdd hf, Result.andThen]

/-- .. where it is not. -/
theorem MapIs.look_miss (h : MapIs w b kv L) (ko : KeyOk P kt kv) {t e : TypeId} (ht : P.underlying t = some (.map kt e)) {z : Value} (hz : (zeroValue e).run P w = .ok z w) (k : K) (hm : ∀ p ∈ L, p.1 ≠ k) (c : Bool) :
    (Instr.lookup t (.map (some b)) (kv k) c).run P w = .ok (if c then .tuple #[z, .bool false] else z) w := by
  obtain ⟨es, cl, h1, h2⟩ := h
  obtain ⟨d, hdd, hd⟩ := ko.desc
  rcases find_spec ko hdd hd h2 k with ⟨hf, _⟩ | ⟨j, v', _, hj⟩
  · simp [Instr.lookup, run_underlying ht, MapKept.run_getObj_map h1, run_checkKey hdd (hd k), run_findKey hdd hf, Result.andThen, hz]
  · exact absurd rfl (hm _ (List.mem_of_getElem? hj))

/-- 'm[k] = v' where k is not there: the pair comes behind the others. -/
theorem MapIs.put_new (h : MapIs w b kv L) (ko : KeyOk P kt kv) {t e : TypeId} (ht : P.underlying t = some (.map kt e)) (k : K) (v : Value) (hm : ∀ p ∈ L, p.1 ≠ k) :
    ∃ w', (Instr.mapUpdate t (.map (some b)) (kv k) v).run P w = .ok () w' ∧ MapIs w' b kv (L ++ [(k, v)]) ∧ Chg (fun i => i = b) w w' := by
  obtain ⟨es, cl, h1, h2⟩ := h
  obtain ⟨d, hdd, hd⟩ := ko.desc
  rcases find_spec ko hdd hd h2 k with ⟨hf, _⟩ | ⟨j, v', _, hj⟩
  · refine ⟨{ w with heap := w.heap.setIfInBounds b (.map (es.push { key := kv k, val := v, born := cl }) (cl + 1)) }, ?_, ⟨_, _, (heap_set h1).1, by simp [h2]⟩, ⟨rfl, rfl, rfl, by simp, fun i _ hi => (heap_set h1).2 i hi⟩⟩
    simp [Instr.mapUpdate, run_underlying ht, MapKept.run_getObj_map h1, run_checkKey hdd (hd k), run_findKey hdd hf, MapKept.run_setObj_map _ h1, Result.andThen]
  · exact absurd rfl (hm _ (List.mem_of_getElem? hj))

/-- 'm[k] = v' where k is there: its value is turned. -/
theorem MapIs.put_old (h : MapIs w b kv L) (ko : KeyOk P kt kv) {t e : TypeId} (ht : P.underlying t = some (.map kt e)) (k : K) (v : Value) (hn : (L.map (·.1)).Nodup) (j : Nat) (v0 : Value) (hj : L[j]? = some (k, v0)) :
    ∃ w', (Instr.mapUpdate t (.map (some b)) (kv k) v).run P w = .ok () w' ∧ MapIs w' b kv (L.set j (k, v)) ∧ Chg (fun i => i = b) w w' := by
  obtain ⟨es, cl, h1, h2⟩ := h
  obtain ⟨d, hdd, hd⟩ := ko.desc
  rcases find_spec ko hdd hd h2 k with ⟨_, hno⟩ | ⟨i, v', hf, hi⟩
  · exact absurd rfl (hno _ (List.mem_of_getElem? hj))
  · have e1 : (L.map (·.1))[j]? = some k := by rw [List.getElem?_map, hj]; rfl
    have e2 : (L.map (·.1))[i]? = some k := by rw [List.getElem?_map, hi]; rfl
    have hlt : j < (L.map (·.1)).length := by rcases Nat.lt_or_ge j (L.map (·.1)).length with h | h; exact h; rw [List.getElem?_eq_none h] at e1; cases e1
    have : j = i := (List.getElem?_inj hlt hn).1 (e1.trans e2.symm)
    subst this
    have hei : (es.toList.map (fun e => (e.key, e.val)))[j]? = some (kv k, v') := by rw [h2, List.getElem?_map, hi]; rfl
    rw [List.getElem?_map] at hei
    cases hx : es.toList[j]? with
    | none => rw [hx] at hei; cases hei
    | some x =>
      rw [hx] at hei
      simp only [Option.map_some, Option.some.injEq, Prod.mk.injEq] at hei
      have hx' : es[j]? = some x := by simpa using hx
      refine ⟨{ w with heap := w.heap.setIfInBounds b (.map (es.modify j fun e => { e with key := kv k, val := v }) cl) }, ?_, ⟨_, _, (heap_set h1).1, ?_⟩, ⟨rfl, rfl, rfl, by simp, fun i _ hi => (heap_set h1).2 i hi⟩⟩
      · simp [Instr.mapUpdate, run_underlying ht, MapKept.run_getObj_map h1, run_checkKey hdd (hd k), run_findKey hdd hf, hx', hei.1, run_keyThatStays (hd k), MapKept.run_setObj_map _ h1, Result.andThen]
      · rw [List.map_set, ← h2, Array.toList_modify]
        apply List.ext_getElem?
        intro i
        simp only [List.getElem?_map, List.getElem?_modify, List.getElem?_set, List.length_map]
        by_cases hij : j = i
        · subst hij
          have : j < es.toList.length := by rcases Nat.lt_or_ge j es.toList.length with h | h; exact h; rw [List.getElem?_eq_none h] at hx; cases hx
          simp only [if_pos trivial, hx]
          have h3 : j < es.size := by simpa using this
          simp [h3]
        · simp [hij]

theorem map_eraseIdx' {α β : Type} (f : α → β) : ∀ (l : List α) (i : Nat), (l.eraseIdx i).map f = (l.map f).eraseIdx i
  | [], _ => rfl
  | _ :: _, 0 => rfl
  | x :: l, i + 1 => by simp [map_eraseIdx' f l i]

/-- 'delete(m, k)' where k is there. -/
theorem MapIs.drop (h : MapIs w b kv L) (ko : KeyOk P kt kv) {t e : TypeId} (ht : P.underlying t = some (.map kt e)) (ty : TypeId) (k : K) (hn : (L.map (·.1)).Nodup) (j : Nat) (v0 : Value) (hj : L[j]? = some (k, v0)) :
    ∃ w', (Builtin.delete_ #[t, kt] ty #[.map (some b), kv k]).run P w = .ok (.tuple #[]) w' ∧ MapIs w' b kv (L.eraseIdx j) ∧ Chg (fun i => i = b) w w' := by
  obtain ⟨es, cl, h1, h2⟩ := h
  obtain ⟨d, hdd, hd⟩ := ko.desc
  rcases find_spec ko hdd hd h2 k with ⟨_, hno⟩ | ⟨i, v', hf, hi⟩
  · exact absurd rfl (hno _ (List.mem_of_getElem? hj))
  · have e1 : (L.map (·.1))[j]? = some k := by rw [List.getElem?_map, hj]; rfl
    have e2 : (L.map (·.1))[i]? = some k := by rw [List.getElem?_map, hi]; rfl
    have hlt : j < (L.map (·.1)).length := by rcases Nat.lt_or_ge j (L.map (·.1)).length with h | h; exact h; rw [List.getElem?_eq_none h] at e1; cases e1
    have : j = i := (List.getElem?_inj hlt hn).1 (e1.trans e2.symm)
    subst this
    refine ⟨{ w with heap := w.heap.setIfInBounds b (.map (es.eraseIdxIfInBounds j) cl) }, ?_, ⟨_, _, (heap_set h1).1, ?_⟩, ⟨rfl, rfl, rfl, by simp, fun i _ hi => (heap_set h1).2 i hi⟩⟩
    · simp [Builtin.delete_, run_underlying ht, MapKept.run_getObj_map h1, run_checkKey hdd (hd k), run_findKey hdd hf, MapKept.run_setObj_map _ h1, Result.andThen]
    · rw [Array.toList_eraseIdxIfInBounds, map_eraseIdx', map_eraseIdx', h2]
end

theorem stringKey {P : Program} {kt : TypeId} (h : P.underlying kt = some .string) : KeyOk P kt Value.string := ⟨⟨_, h, fun _ => trivial⟩, fun a b h => by cases h; rfl⟩
theorem intKey {P : Program} {kt : TypeId} {q : IntKind} (h : P.underlying kt = some (.int q)) : KeyOk P kt (Value.int q) := ⟨⟨_, h, fun _ => rfl⟩, fun a b h => by cases h; rfl⟩

/-! ### two pointers compared -/
section
variable {P : Program} (w : World)
theorem run_equalIn_ptr (d : Nat) (t e : TypeId) (n : Nat) (h : P.underlying t = some (.pointer e)) (hs : (sizeOf e).run P w = .ok (n + 1) w) (b i j : Nat) :
    (Op.equalIn (d + 1) t (.pointer (some ⟨b, i, none⟩)) (.pointer (some ⟨b, j, none⟩))).run P w = .ok (i == j) w := by
  have e1 : ((⟨b, i, none⟩ : Addr) == ⟨b, j, none⟩) = (i == j) := by
    rw [Bool.eq_iff_iff]; simp
  simp [Op.equalIn, run_underlying h, sameAddr, hs, Result.andThen, e1]
theorem run_eqPtr_block (t e : TypeId) (n : Nat) (h : P.underlying t = some (.pointer e)) (hs : (sizeOf e).run P w = .ok (n + 1) w) (b i j : Nat) :
    (binOp .eql t (.pointer (some ⟨b, i, none⟩)) (.pointer (some ⟨b, j, none⟩))).run P w = .ok (.bool (i == j)) w := by
  simp only [binOp]
  simp [Op.equal, Op.maxDepth, run_equalIn_ptr w 9999 t e n h hs b i j, Result.andThen]
theorem run_nePtr_block (t e : TypeId) (n : Nat) (h : P.underlying t = some (.pointer e)) (hs : (sizeOf e).run P w = .ok (n + 1) w) (b i j : Nat) :
    (binOp .neq t (.pointer (some ⟨b, i, none⟩)) (.pointer (some ⟨b, j, none⟩))).run P w = .ok (.bool (!(i == j))) w := by
  simp only [binOp]
  simp [Op.equal, Op.maxDepth, run_equalIn_ptr w 9999 t e n h hs b i j, Result.andThen]
theorem run_equalIn_ptr2 (d : Nat) (t e : TypeId) (n : Nat) (h : P.underlying t = some (.pointer e)) (hs : (sizeOf e).run P w = .ok (n + 1) w) (b c i j : Nat) (hbc : b ≠ c)
    {cb cc : Array Value} {tb tc : TypeId} (hb : w.heap[b]? = some (.cells cb tb (0, 0))) (hc : w.heap[c]? = some (.cells cc tc (0, 0))) :
    (Op.equalIn (d + 1) t (.pointer (some ⟨b, i, none⟩)) (.pointer (some ⟨c, j, none⟩))).run P w = .ok false w := by
  have sb : w.shape? b = some (tb, cb.size) := by simp [World.shape?, hb]
  have sc : w.shape? c = some (tc, cc.size) := by simp [World.shape?, hc]
  have fb : ∀ k, w.frozen? ⟨b, k, none⟩ = false := fun k => frozen_of_row w b k cb tb hb
  have fc : ∀ k, w.frozen? ⟨c, k, none⟩ = false := fun k => frozen_of_row w c k cc tc hc
  simp [Op.equalIn, run_underlying h, sameAddr, hs, Result.andThen, hbc, noView, viewAt, mayBeOne, stringish, shape, frozen, Sem.run, sb, sc, fb, fc]
theorem run_eqPtr_apart (t e : TypeId) (n : Nat) (h : P.underlying t = some (.pointer e)) (hs : (sizeOf e).run P w = .ok (n + 1) w) (b c i j : Nat) (hbc : b ≠ c)
    {cb cc : Array Value} {tb tc : TypeId} (hb : w.heap[b]? = some (.cells cb tb (0, 0))) (hc : w.heap[c]? = some (.cells cc tc (0, 0))) :
    (binOp .eql t (.pointer (some ⟨b, i, none⟩)) (.pointer (some ⟨c, j, none⟩))).run P w = .ok (.bool false) w := by
  simp only [binOp]
  simp [Op.equal, Op.maxDepth, run_equalIn_ptr2 w 9999 t e n h hs b c i j hbc hb hc, Result.andThen]
theorem run_nePtr_apart (t e : TypeId) (n : Nat) (h : P.underlying t = some (.pointer e)) (hs : (sizeOf e).run P w = .ok (n + 1) w) (b c i j : Nat) (hbc : b ≠ c)
    {cb cc : Array Value} {tb tc : TypeId} (hb : w.heap[b]? = some (.cells cb tb (0, 0))) (hc : w.heap[c]? = some (.cells cc tc (0, 0))) :
    (binOp .neq t (.pointer (some ⟨b, i, none⟩)) (.pointer (some ⟨c, j, none⟩))).run P w = .ok (.bool true) w := by
  simp only [binOp]
  simp [Op.equal, Op.maxDepth, run_equalIn_ptr2 w 9999 t e n h hs b c i j hbc hb hc, Result.andThen]
end

/-! ### an append on an owned row, as one step of a region that draws its order -/
theorem step_append_own {P : Program} {ops : Array Oper} {o : Oper} {a : Act} {w : World} {K : Act → World → Prop} {Q : Exit → Act → World → Prop} {E : Prop}
    (hg : o.guard = none) (s x : Operand) (t : TypeId) (hop : o.op = Op.call { callee := Callee.builtin Builtin.append, args := #[s, x], argTypes := #[t, t] })
    (base : Nat) (e : TypeId) (i : TypeInfo) (z : Value) (size bytes : Nat) (h1 : P.underlying t = some (.slice e)) (h2 : P.info? e = some i) (h3 : i.zero = some z) (h4 : i.size = size) (h5 : i.bytes = bytes) (h6 : z.cells.size = size) (h7 : 0 < size)
    (v : Value) (n : Nat) (xs : List Value) (hs : a.eval s = v) (hown : w.ownsRow base e size v n xs)
    (ad : Addr) (m c : Nat) (news : List Value) (hx : a.eval x = .slice (some ad) m c) (hn : news.length = m * size) (hc : ∀ j u, news[j]? = some u → w.cell? (ad.add j) = some u) (h1c : ∀ u ∈ news, u.oneCell' = true)
    (b1 : n + m ≤ maxLen) (b2 : (n + m) * bytes ≤ 140737488355328) (hbase : base ≤ w.heap.size)
    (hK : ∀ v' w', w'.ownsRow base e size v' (n + m) (xs ++ news) → w.grownBy w' v.ownBlock → (v'.ownBlock = v.ownBlock ∨ v'.ownBlock = some w.heap.size) → K (a.put o.dst v') w') :
    if Region.wanted o (yielded ops a.tmps) = true then Oper.wp P o a w K Q else E := by
  have hw : Region.wanted o (yielded ops a.tmps) = true := by simp [Region.wanted, hg]
  rw [if_pos hw]
  obtain ⟨v', w', hrun, r1, r2, _, r3⟩ := run_append_own_at (P := P) w base t o.type e i z size bytes h1 h2 h3 h4 h5 h6 h7 v n xs hown ad m c news hn hc h1c b1 b2 hbase
  unfold Oper.wp execOp
  simp only [hop, resolve, invoke, builtin, Sem.run_bind, Sem.run_pure, Result.andThen_ok, List.map_toArray, List.map_cons, List.map_nil, hs, hx, hrun]
  exact hK v' w' r1 r2 r3

end Go.Proofs.Ybulkamty
