/-
  OUR OWN. 'LawS1912CEntryScript': the state of the script's memory, and what each step of a round does to it. No walk here.
-/
import Derived.Test.YbulkamooScript
namespace Go.Proofs.Ybulkamoo
open Go.RowKit
set_option linter.unusedVariables false

/-- The batch's part of the memory. -/
structure BP (w wr : World) (bb : Nat) (M : List ByteArray) (C : List Nat) (ev : Value) (vs : List Value) (ix : Option Nat) : Prop where
  below : Below bb w wr
  blk : wr.heap[bb]? = some (.cells #[ev, .int .i64 0, .map ix] 54 (0, 0))
  own : wr.ownsRow (bb + 1) 61 4 ev M.length (entCells M vs)
  vals : ∀ (i : Nat) (v : Value) (c : Nat), vs[i]? = some v → C[i]? = some c → ∃ xs, wr.ownsRow (bb + 1) 30 1 v c xs
  hix : ∀ im, ix = some im → MapIs wr im Value.string (idxL M) ∧ bb < im

/-- The part that speaks of no memory. -/
structure PP (t : Nat) (ind : Bool) (M : List ByteArray) (C : List Nat) (ev : Value) (vs : List Value) (ix : Option Nat) : Prop where
  vlen : vs.length = M.length
  clen : C.length = M.length
  ixs : ix.isSome = ind
  ixM : ix ≠ none → M ≠ []
  evM : M = [] → ev = .slice none 0 0
  sorted : ix = none → M.Pairwise (fun a b => less a b = true)
  nodup : M.Nodup
  mlen : M.length ≤ t
  cb : ∀ c ∈ C, c ≤ t
  vdis : ∀ (i j : Nat) (v v' : Value), vs[i]? = some v → vs[j]? = some v' → i ≠ j → ∀ g, v.ownBlock = some g → v'.ownBlock ≠ some g

/-- A block that is a row of strings or of ints of the call's own, or that is not there yet. -/
def Off (w : World) (bb i : Nat) : Prop := bb < i ∧ ∀ o, w.heap[i]? = some o → ∃ c e, o = .cells c e (0, 0) ∧ (e = 9 ∨ e = 3)

theorem Off.new {w : World} {bb i : Nat} (hb : bb < w.heap.size) (h : w.heap.size ≤ i) : Off w bb i := ⟨by omega, fun o ho => by have := lt_of_block ho; omega⟩
theorem Off.row {w : World} {bb i : Nat} {e : TypeId} {size : Nat} {v : Value} {n : Nat} {xs : List Value} (h : w.ownsRow (bb + 1) e size v n xs) (he : e = 9 ∨ e = 3) (hi : v.ownBlock = some i) : Off w bb i := by
  obtain ⟨c, hc⟩ := ownsRow_block h hi
  have := (h.lt i hi).1
  exact ⟨by omega, fun o ho => ⟨c, e, by rw [hc] at ho; simpa using ho.symm, he⟩⟩

theorem BP.kept {w wr w' : World} {bb : Nat} {M : List ByteArray} {C : List Nat} {ev : Value} {vs : List Value} {ix : Option Nat} (h : BP w wr bb M C ev vs ix) {S : Nat → Prop} (hc : Chg S wr w') (hS : ∀ i, S i → Off wr bb i) : BP w w' bb M C ev vs ix := by
  have hbb := lt_of_block h.blk
  have hno : ∀ i c e, wr.heap[i]? = some (.cells c e (0, 0)) → e ≠ 9 → e ≠ 3 → ¬ S i := by
    intro i c e hi h9 h3 hs
    obtain ⟨c', e', ho, he⟩ := (hS i hs).2 _ hi
    simp only [Obj.cells.injEq] at ho
    rcases he with he | he
    · exact h9 (by rw [← he]; exact ho.2.1)
    · exact h3 (by rw [← he]; exact ho.2.1)
  refine ⟨h.below.trans (hc.below (by omega) (fun k hk => by have := (hS k hk).1; omega)), hc.at h.blk (hno _ _ _ h.blk (by decide) (by decide)), hc.ownsRow h.own (fun k hk => ?_), fun i v c hv hcc => ?_, fun im him => ?_⟩
  · obtain ⟨cur, hcur⟩ := ownsRow_block h.own hk
    exact hno _ _ _ hcur (by decide) (by decide)
  · obtain ⟨xs, hxs⟩ := h.vals i v c hv hcc
    refine ⟨xs, hc.ownsRow hxs (fun k hk => ?_)⟩
    obtain ⟨cur, hcur⟩ := ownsRow_block hxs hk
    exact hno _ _ _ hcur (by decide) (by decide)
  · obtain ⟨hm, hb⟩ := h.hix im him
    refine ⟨hm.kept hc (fun hs => ?_), hb⟩
    obtain ⟨es, clk, h1, -⟩ := hm
    obtain ⟨c', e', ho, -⟩ := (hS im hs).2 _ h1
    cases ho

theorem apart_rows {w : World} {base base' : Nat} {e e' : TypeId} {size size' : Nat} {v v' : Value} {n n' : Nat} {xs xs' : List Value} (h : w.ownsRow base e size v n xs) (h' : w.ownsRow base' e' size' v' n' xs') (hne : e ≠ e') : ∀ k, v.ownBlock = some k → ¬ v'.ownBlock = some k := by
  intro k hk hk'
  obtain ⟨c, hc⟩ := ownsRow_block h hk
  obtain ⟨c', hc'⟩ := ownsRow_block h' hk'
  rw [hc] at hc'
  simp only [Option.some.injEq, Obj.cells.injEq] at hc'
  exact hne hc'.2.1

/-- A row of another element type than a batch's blocks is none of them. -/
theorem BP.other {w wr : World} {bb : Nat} {M : List ByteArray} {C : List Nat} {ev : Value} {vs : List Value} {ix : Option Nat} (h : BP w wr bb M C ev vs ix) {base : Nat} {e : TypeId} {size : Nat} {v : Value} {n : Nat} {xs : List Value} (ho : wr.ownsRow base e size v n xs)
    (h1 : e ≠ 54) (h2 : e ≠ 61) : ∀ k, v.ownBlock = some k → ¬ (k = bb ∨ ev.ownBlock = some k ∨ ix = some k) := by
  intro k hk hs
  obtain ⟨cur, hcur⟩ := ownsRow_block ho hk
  rcases hs with rfl | hs | hs
  · rw [h.blk] at hcur
    simp only [Option.some.injEq, Obj.cells.injEq] at hcur
    exact h1 hcur.2.1.symm
  · exact apart_rows ho h.own h2 k hk hs
  · exact (h.hix k hs).1.notCells hcur

/-! ### '[]byte(k)' -/
theorem add_zero_addr (b j : Nat) : (⟨b, 0, none⟩ : Addr).add j = ⟨b, j, none⟩ := by unfold Addr.add; split <;> simp_all
theorem conv_bytes (k : ByteArray) (w : World) : ∃ kc w', (convert 9 30 (.string k)).run Yba.prog w = .ok (.slice (some ⟨w.heap.size, 0, none⟩) k.size kc) w' ∧ Chg (fun _ => False) w w' ∧ w.heap.size < w'.heap.size ∧
    ∀ W : World, W.heap[w.heap.size]? = w'.heap[w.heap.size]? → (convert 30 9 (.slice (some ⟨w.heap.size, 0, none⟩) k.size kc)).run Yba.prog W = .ok (.string k) W := by
  refine ⟨_, _, run_bytes_of_string w 9 30 5 k Yba.underlying9 Yba.underlying30 Yba.underlying5, (Chg.drew _ w).trans (Chg.alloc _ _ _), by simp, ?_⟩
  intro W hW
  have hW2 := hW.trans (heap_alloc_new w.drew _)
  have key := run_convert_bytes_back (P := Yba.prog) W 30 9 5 ⟨w.heap.size, 0, none⟩ (grownCap w k.size 0 5) k.data.toList Yba.underlying30 Yba.underlying5 Yba.underlying9 (fun j hj => by
    rw [add_zero_addr, cell_of_row _ _ _ _ _ _ hW2]
    have hj' : j < k.size := hj
    have hj2 : j < k.data.size := hj
    simp only [bytesRow, Array.getElem?_append, Array.size_map]
    rw [if_pos hj2, Array.getElem?_map, Array.getElem?_eq_getElem hj2]
    rfl)
  have e : (⟨k.data.toList.toArray⟩ : ByteArray) = k := by cases k; simp
  rw [e] at key
  have e2 : k.data.toList.length = k.size := rfl
  rw [e2] at key
  exact key

theorem modify_at {C : List Nat} {j c : Nat} (h : C[j]? = some c) (i : Nat) (x : Nat) (hx : (C.modify j (· + 1))[i]? = some x) : (i = j ∧ x = c + 1) ∨ (i ≠ j ∧ C[i]? = some x) := by
  rw [List.getElem?_modify] at hx
  by_cases hij : j = i
  · subst hij
    rw [h] at hx
    simp at hx
    exact Or.inl ⟨rfl, hx.symm⟩
  · simp [hij] at hx
    exact Or.inr ⟨fun e => hij e.symm, hx⟩

/-! ### the plain step -/
def growV (M : List ByteArray) (vs : List Value) (k : ByteArray) : List Value := if place M k < M.length then vs else vs ++ [.slice none 0 0]
theorem nextM_yes {M : List ByteArray} {k : ByteArray} (h : k ∈ M) : nextM M k = M := if_pos (place_lt h)
theorem nextM_no {M : List ByteArray} {k : ByteArray} (h : k ∉ M) : nextM M k = M ++ [k] := if_neg (by rw [place_not M k h]; omega)
theorem growC_yes {M : List ByteArray} {C : List Nat} {k : ByteArray} (h : k ∈ M) : growC M C k = C := if_pos (place_lt h)
theorem growC_no {M : List ByteArray} {C : List Nat} {k : ByteArray} (h : k ∉ M) : growC M C k = C ++ [0] := if_neg (by rw [place_not M k h]; omega)
theorem growV_yes {M : List ByteArray} {vs : List Value} {k : ByteArray} (h : k ∈ M) : growV M vs k = vs := if_pos (place_lt h)
theorem growV_no {M : List ByteArray} {vs : List Value} {k : ByteArray} (h : k ∉ M) : growV M vs k = vs ++ [.slice none 0 0] := if_neg (by rw [place_not M k h]; omega)
theorem nextM_at (M : List ByteArray) (k : ByteArray) : (nextM M k)[place M k]? = some k := by
  by_cases h : k ∈ M
  · rw [nextM_yes h]; exact place_mem M k h
  · rw [nextM_no h, place_not M k h]; simp
theorem nextM_nodup {M : List ByteArray} (hn : M.Nodup) (k : ByteArray) : (nextM M k).Nodup := by
  by_cases h : k ∈ M
  · rw [nextM_yes h]; exact hn
  · rw [nextM_no h]
    rw [List.nodup_append]
    exact ⟨hn, by simp, fun a ha b hb => by simp at hb; subst hb; exact fun e => h (e ▸ ha)⟩
theorem getElem?_snoc {α : Type} (l : List α) (x : α) (i : Nat) (y : α) (h : (l ++ [x])[i]? = some y) : l[i]? = some y ∨ (i = l.length ∧ y = x) := by
  rcases Nat.lt_trichotomy i l.length with hl | hl | hl
  · rw [List.getElem?_append_left hl] at h; exact Or.inl h
  · subst hl; simp at h; exact Or.inr ⟨rfl, h.symm⟩
  · rw [List.getElem?_eq_none (by simp; omega)] at h; cases h
theorem lt_of_getElem? {α : Type} {l : List α} {i : Nat} {x : α} (h : l[i]? = some x) : i < l.length := by
  rcases Nat.lt_or_ge i l.length with h' | h'
  · exact h'
  · rw [List.getElem?_eq_none h'] at h; cases h

theorem PP.next {t : Nat} {ind : Bool} {M : List ByteArray} {C : List Nat} {ev : Value} {vs : List Value} {ix : Option Nat} (h : PP t ind M C ev vs ix) (k : ByteArray) {ix' : Option Nat} (hix' : ix'.isSome = newInd ind M k) {v' ev' : Value}
    (hv' : ∀ g, v'.ownBlock = some g → (∃ v, (growV M vs k)[place M k]? = some v ∧ v.ownBlock = some g) ∨ (∀ (i : Nat) v, (growV M vs k)[i]? = some v → v.ownBlock ≠ some g)) :
    PP (t + 1) (newInd ind M k) (nextM M k) (nextC M C k) ev' ((growV M vs k).set (place M k) v') ix' := by
  have hV : (growV M vs k).length = (nextM M k).length := by
    by_cases hk : k ∈ M
    · rw [growV_yes hk, nextM_yes hk]; exact h.vlen
    · rw [growV_no hk, nextM_no hk]; simp [h.vlen]
  have hC : (growC M C k).length = (nextM M k).length := by
    by_cases hk : k ∈ M
    · rw [growC_yes hk, nextM_yes hk]; exact h.clen
    · rw [growC_no hk, nextM_no hk]; simp [h.clen]
  have hne : nextM M k ≠ [] := fun e => by have := nextM_at M k; rw [e] at this; simp at this
  have hdis : ∀ (i j : Nat) (v u : Value), (growV M vs k)[i]? = some v → (growV M vs k)[j]? = some u → i ≠ j → ∀ g, v.ownBlock = some g → u.ownBlock ≠ some g := by
    intro i j v u hi hj hij g hg hu
    by_cases hk : k ∈ M
    · rw [growV_yes hk] at hi hj; exact h.vdis i j v u hi hj hij g hg hu
    · rw [growV_no hk] at hi hj
      rcases getElem?_snoc _ _ _ _ hi with hi | ⟨rfl, rfl⟩
      · rcases getElem?_snoc _ _ _ _ hj with hj | ⟨rfl, rfl⟩
        · exact h.vdis i j v u hi hj hij g hg hu
        · simp [Value.ownBlock] at hu
      · simp [Value.ownBlock] at hg
  refine ⟨by rw [List.length_set]; exact hV, by rw [nextC, List.length_modify]; exact hC, hix', fun _ => hne, fun e => absurd e hne, ?_, nextM_nodup h.nodup k, ?_, ?_, ?_⟩
  · intro hno
    have hf : newInd ind M k = false := by rw [← hix', hno]; rfl
    have hi : ind = false := by cases ind with | false => rfl | true => simp [newInd] at hf
    have hs := h.sorted (by have := h.ixs; rw [hi] at this; cases hx : ix with | none => rfl | some _ => rw [hx] at this; cases this)
    by_cases hk : k ∈ M
    · rw [nextM_yes hk]; exact hs
    · rw [nextM_no hk]
      cases hl : M.getLast? with
      | none => rw [List.getLast?_eq_none_iff] at hl; subst hl; simp
      | some l =>
        have hlk : less l k = true := by
          subst hi
          simp only [newInd, hl, Bool.false_or, Bool.and_eq_false_iff, Bool.not_eq_false'] at hf
          rcases hf with hf | hf
          · exact hf
          · exact absurd (by have := toList_inj (by simpa using hf); subst this; exact List.mem_of_getLast? hl) hk
        rw [List.pairwise_append]
        exact ⟨hs, by simp, fun a ha b hb => by simp at hb; subst hb; exact above_new hs hl hlk a ha⟩
  · by_cases hk : k ∈ M
    · rw [nextM_yes hk]; have := h.mlen; omega
    · rw [nextM_no hk]; have := h.mlen; simp; omega
  · intro c hc
    obtain ⟨i, hi⟩ := List.mem_iff_getElem?.1 hc
    have hg : ∀ x ∈ growC M C k, x ≤ t := by
      intro x hx
      by_cases hk : k ∈ M
      · rw [growC_yes hk] at hx; exact h.cb x hx
      · rw [growC_no hk] at hx
        rcases List.mem_append.1 hx with hx | hx
        · exact h.cb x hx
        · simp at hx; omega
    have hlt := lt_of_getElem? hi
    rw [nextC, List.length_modify] at hlt
    have hp : place M k < (growC M C k).length := by rw [hC]; exact lt_of_getElem? (nextM_at M k)
    rcases modify_at (List.getElem?_eq_getElem hp) i c hi with ⟨_, rfl⟩ | ⟨_, h2⟩
    · have := hg _ (List.getElem_mem hp); omega
    · have := hg _ (List.mem_of_getElem? h2); omega
  · intro i j v u hi hj hij g hg hu
    rw [List.getElem?_set] at hi hj
    split at hi
    · rename_i e1
      split at hi
      · rename_i e2
        simp only [Option.some.injEq] at hi
        subst hi
        rw [if_neg (by omega)] at hj
        rcases hv' g hg with ⟨v0, h0, hg0⟩ | hno
        · exact hdis (place M k) j v0 u h0 hj (by omega) g hg0 hu
        · exact hno j u hj hu
      · cases hi
    · rename_i e1
      split at hj
      · rename_i e3
        split at hj
        · simp only [Option.some.injEq] at hj
          subst hj
          rcases hv' g hu with ⟨v0, h0, hg0⟩ | hno
          · exact hdis (place M k) i v0 v h0 hi (by omega) g hg0 hg
          · exact hno i v hi hg
        · cases hj
      · exact hdis i j v u hi hj hij g hg hu

/-! ### the batch's memory behind a call of 'entry' -/
theorem ent_next {w w4 w5 : World} {bb : Nat} {M : List ByteArray} {C : List Nat} {ev : Value} {vs : List Value} {ix : Option Nat} {k : ByteArray} {e : Ending} {ind ind' : Bool} {t : Nat} (hp : PP t ind M C ev vs ix) (h : BP w w4 bb M C ev vs ix) (hb : bb ≤ w4.heap.size)
    (he : EntPost w4 bb ev ix (entCells M vs) M k ind' e w5) :
    ∃ g' cap' ix', e = .returned (.pointer (some ⟨g', place M k * 4, none⟩)) ∧ ix'.isSome = ind' ∧ Chg (fun i => i = bb ∨ ev.ownBlock = some i ∨ ix = some i) w4 w5 ∧
      BP w w5 bb (nextM M k) (growC M C k) (.slice (some ⟨g', 0, none⟩) (nextM M k).length cap') (growV M vs k) ix' := by
  obtain ⟨g', cap', ix', j, M', xs', rfl, hj, hc, hblk, hown, hcase, hixs, hmap⟩ := he
  have hM : M' = nextM M k := by
    rcases hcase with ⟨hk, rfl, _⟩ | ⟨hk, rfl, _⟩
    · exact (nextM_yes hk).symm
    · exact (nextM_no hk).symm
  have hx : xs' = entCells (nextM M k) (growV M vs k) := by
    rcases hcase with ⟨hk, rfl, rfl⟩ | ⟨hk, rfl, rfl⟩
    · rw [nextM_yes hk, growV_yes hk]
    · rw [nextM_no hk, growV_no hk, entCells_append M vs [k] [.slice none 0 0] hp.vlen]; rfl
  subst hM hx
  have hnd := nextM_nodup hp.nodup k
  have hjp : j = place M k := by
    have h1 := nextM_at M k
    exact (List.getElem?_inj (lt_of_getElem? hj) hnd).1 (hj.trans h1.symm)
  subst hjp
  refine ⟨g', cap', ix', rfl, hixs, hc, ⟨h.below.trans (hc.below hb ?_), hblk, hown, ?_, hmap⟩⟩
  · intro i hi
    rcases hi with rfl | hi | hi
    · exact Nat.le_refl _
    · have := (h.own.lt i hi).1; omega
    · have := (h.hix i hi).2; omega
  · intro i v c hv hcc
    have old : ∀ (i : Nat) (v : Value) (c : Nat), vs[i]? = some v → C[i]? = some c → ∃ xs, w5.ownsRow (bb + 1) 30 1 v c xs := by
      intro i v c hv hcc
      obtain ⟨xs, hxs⟩ := h.vals i v c hv hcc
      exact ⟨xs, hc.ownsRow hxs (h.other hxs (by decide) (by decide))⟩
    by_cases hk : k ∈ M
    · rw [growV_yes hk] at hv; rw [growC_yes hk] at hcc; exact old i v c hv hcc
    · rw [growV_no hk] at hv; rw [growC_no hk] at hcc
      rcases getElem?_snoc _ _ _ _ hv with hv | ⟨rfl, rfl⟩
      · have := lt_of_getElem? hv
        rcases getElem?_snoc _ _ _ _ hcc with hcc | ⟨rfl, rfl⟩
        · exact old i v c hv hcc
        · have h1 := hp.vlen; have h2 := hp.clen; omega
      · rcases getElem?_snoc _ _ _ _ hcc with hcc | ⟨_, rfl⟩
        · have h1 := hp.vlen; have h2 := hp.clen; have := lt_of_getElem? hcc; omega
        · exact ⟨[], World.ownsRow_nil _ _ _ _⟩

theorem entCells_length : ∀ (M : List ByteArray) (vs : List Value), vs.length = M.length → (entCells M vs).length = M.length * 4
  | [], [], _ => rfl
  | k :: M, v :: vs, h => by simp [entCells, entCells_length M vs (by simpa using h)]; omega
  | [], _ :: _, h => by simp at h
  | _ :: _, [], h => by simp at h
theorem entCells_set : ∀ (M : List ByteArray) (vs : List Value) (j : Nat) (v : Value), vs.length = M.length → entCells M (vs.set j v) = (entCells M vs).set (j * 4 + 1) v
  | [], [], _, _, _ => rfl
  | k :: M, u :: vs, 0, v, h => by simp [entCells]
  | k :: M, u :: vs, j + 1, v, h => by
    rw [show (j + 1) * 4 + 1 = (j * 4 + 1) + 4 by omega]
    simp [entCells, entCells_set M vs j v (by simpa using h)]
  | [], _ :: _, _, _, h => by simp at h
  | _ :: _, [], _, _, h => by simp at h

/-- 'p.values = append(p.values, nil)' behind 'entry'. -/
theorem push_next {w w5 w6 : World} {bb : Nat} {M : List ByteArray} {C : List Nat} {g n cap : Nat} {vs : List Value} {ix : Option Nat} (h : BP w w5 bb M C (.slice (some ⟨g, 0, none⟩) n cap) vs ix) (hn : n = M.length) (hvl : vs.length = M.length)
    (hdis : ∀ (i j : Nat) (v v' : Value), vs[i]? = some v → vs[j]? = some v' → i ≠ j → ∀ g, v.ownBlock = some g → v'.ownBlock ≠ some g)
    {j c : Nat} {v v' : Value} {xs' : List Value} (hv : vs[j]? = some v) (hcj : C[j]? = some c) (hpush : w6.ownsRow (bb + 1) 30 1 v' (c + 1) xs') (hchg : Chg (fun i => v.ownBlock = some i) w5 w6) (hb5 : bb < w5.heap.size) :
    BP w (w6.setCell ⟨g, j * 4 + 1, none⟩ v') bb M (C.modify j (· + 1)) (.slice (some ⟨g, 0, none⟩) n cap) (vs.set j v') ix := by
  obtain ⟨xs, hxs⟩ := h.vals j v c hv hcj
  have hno : ∀ i c' e, w5.heap[i]? = some (.cells c' e (0, 0)) → e ≠ 30 → ¬ v.ownBlock = some i := by
    intro i c' e hi h30 hs
    obtain ⟨cur, hcur⟩ := ownsRow_block hxs hs
    rw [hi] at hcur
    simp only [Option.some.injEq, Obj.cells.injEq] at hcur
    exact h30 hcur.2.1
  have blk6 := hchg.at h.blk (hno _ _ _ h.blk (by decide))
  obtain ⟨cur, hcur⟩ := ownsRow_block h.own (k := g) rfl
  have own6 := hchg.ownsRow h.own (fun k hk => by obtain ⟨cu, hcu⟩ := ownsRow_block h.own hk; exact hno _ _ _ hcu (by decide))
  have row6 := hchg.at hcur (hno _ _ _ hcur (by decide))
  have hgb : bb < g := by have := (h.own.lt g rfl).1; omega
  have hset : Chg (fun i => i = g) w6 (w6.setCell ⟨g, j * 4 + 1, none⟩ v') := Chg.setCell _ _ _ _ rfl
  have hno6 : ∀ {u : Value} {m : Nat} {ys : List Value}, w6.ownsRow (bb + 1) 30 1 u m ys → ∀ k, u.ownBlock = some k → ¬ k = g := by
    intro u m ys hu k hk e
    obtain ⟨cu, hcu⟩ := ownsRow_block hu hk
    rw [e, row6] at hcu
    simp at hcu
  refine ⟨?_, blk_set_other blk6 (by omega), ?_, ?_, ?_⟩
  · exact (h.below.trans (hchg.below (by omega) (fun k hk => by have := (hxs.lt k hk).1; omega))).setCell (by show bb ≤ g; omega) _
  · subst hn
    rw [entCells_set M vs j v' hvl]
    exact ownsRow_set own6 _ (by rw [entCells_length M vs hvl]; have := lt_of_getElem? hv; omega) _
  · intro i u m hu hm
    rw [List.getElem?_set] at hu
    rcases modify_at hcj i m hm with ⟨rfl, rfl⟩ | ⟨hij, hm'⟩
    · rw [if_pos rfl] at hu
      split at hu
      · simp only [Option.some.injEq] at hu
        subst hu
        exact ⟨xs', hset.ownsRow hpush (hno6 hpush)⟩
      · cases hu
    · rw [if_neg (by omega)] at hu
      obtain ⟨ys, hys⟩ := h.vals i u m hu hm'
      have hys6 := hchg.ownsRow hys (fun k hk e => hdis i j u v hu hv hij k hk e)
      exact ⟨ys, hset.ownsRow hys6 (hno6 hys6)⟩
  · intro im him
    obtain ⟨hm, hbi⟩ := h.hix im him
    have hm6 := hm.kept hchg (fun hs => by obtain ⟨cu, hcu⟩ := ownsRow_block hxs hs; exact hm.notCells hcu)
    exact ⟨hm6.kept hset (fun e => by rw [e] at hm6; exact hm6.notCells row6), hbi⟩
end Go.Proofs.Ybulkamoo
