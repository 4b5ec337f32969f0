/-
  OUR OWN. b1916a: more laws for the walk of LawS1916AInsertSorted (3).
-/
import Derived.Test.YbulkamqsLaw0
import Derived.Deep.DeepCutAuto
namespace Go.Proofs.Ybulkamqs
open Go.RowKit
set_option linter.unusedVariables false
set_option linter.unusedSimpArgs false
theorem szs_of {w : World} {B n cap : Nat} {va : Option Addr} {L : List Sz} (h : w.ownsRow B 35 7 (.slice va n cap) n (rows L)) (hl : L.length = n) : ∀ i, i < n → ∃ g, va = some ⟨g, 0, none⟩ ∧ SzAt w g i (L.getD i z7) := by
  intro i hi
  obtain ⟨g, cap', cur, hv, _⟩ := ownsRow_form h (by omega)
  simp only [Value.slice.injEq] at hv
  obtain ⟨rfl, _, rfl⟩ := hv
  refine ⟨g, rfl, szAt_of h ?_⟩
  rw [List.getD_eq_getElem?_getD, List.getElem?_eq_getElem (by omega)]
  rfl
def cnt (Z : List Int) (v : Int) : Nat := (Z.filter (fun x => decide (v ≤ x))).length
theorem cnt_le (Z : List Int) (v : Int) : cnt Z v ≤ Z.length := List.length_filter_le _ _
theorem cnt_step {Z : List Int} {t : Nat} {x v : Int} (h : Z[t]? = some x) : cnt (Z.take (t + 1)) v = cnt (Z.take t) v + if v ≤ x then 1 else 0 := by
  have hlt : t < Z.length := by rcases Nat.lt_or_ge t Z.length with h' | h'; exact h'; rw [List.getElem?_eq_none h'] at h; cases h
  have e : Z[t] = x := by rw [List.getElem?_eq_getElem hlt] at h; simpa using h
  unfold cnt
  rw [List.take_succ_eq_append_getElem hlt, e, List.filter_append, List.length_append]
  by_cases hx : v ≤ x <;> simp [hx]
/-- How many are not smaller than v, in a row that goes down. -/
theorem cnt_eq {Z : List Int} {v : Int} {c : Nat} (hZ : Z.Pairwise (fun a b => b ≤ a)) (hc : c ≤ Z.length) (h1 : ∀ i x, i + 1 = c → Z[i]? = some x → v ≤ x) (h2 : ∀ i x, c ≤ i → Z[i]? = some x → x < v) : cnt Z v = c := by
  unfold cnt
  rw [← List.take_append_drop c Z, List.filter_append, List.length_append]
  have a1 : (Z.take c).filter (fun x => decide (v ≤ x)) = Z.take c := by
    rw [List.filter_eq_self]
    intro x hx
    obtain ⟨i, hi, rfl⟩ := List.getElem_of_mem hx
    simp only [List.length_take] at hi
    rw [List.getElem_take]
    have hlt : i < Z.length := by omega
    have hcl : c - 1 < Z.length := by omega
    have hv := h1 (c - 1) Z[c - 1] (by omega) (List.getElem?_eq_getElem hcl)
    by_cases e : i = c - 1
    · subst e; simpa using hv
    · have := List.pairwise_iff_getElem.1 hZ i (c - 1) hlt hcl (by omega)
      simp; omega
  have a2 : (Z.drop c).filter (fun x => decide (v ≤ x)) = [] := by
    rw [List.filter_eq_nil_iff]
    intro x hx
    obtain ⟨i, hi, rfl⟩ := List.getElem_of_mem hx
    simp only [List.length_drop] at hi
    rw [List.getElem_drop]
    have := h2 (c + i) Z[c + i] (by omega) (List.getElem?_eq_getElem (by omega))
    simp; omega
  rw [a1, a2]
  simp; omega
/-- 'append(s, x)' where s is a row of the call's own and x was just laid. -/
theorem wpList_append_new {P : Program} {ops : Array Oper} {rest : List Oper} {o : Oper} {a : Act} {w : World} {Q : Exit → Act → World → Prop} (hgd : o.guard = none) (s x : Operand) (t : TypeId)
    (ho : o.op = .call { callee := .builtin .append, args := #[s, x], argTypes := #[t, t] })
    (base : Nat) (e : TypeId) (z : Value) (size bytes : Nat) (info : (P.info? e).map (fun i => (i.zero, i.size, i.bytes)) = some (some z, size, bytes)) (hz : z.cells.size = size) (hsz : 0 < size) (ht : P.underlying t = some (.slice e))
    (v : Value) (n : Nat) (xs : List Value) (hs : a.eval s = v) (hown : w.ownsRow base e size v n xs) (nb c : Nat) (news : List Value) (hx : a.eval x = .slice (some ⟨nb, 0, none⟩) 1 c) (hl : news.length = size)
    (hnew : w.heap[nb]? = some (.cells news.toArray e (0, 0))) (h1 : ∀ u ∈ news, u.oneCell' = true) (hn : n ≤ 1000000) (hby : bytes ≤ 1000) (hbase : base ≤ w.heap.size)
    (h : ∀ g cap w', w'.ownsRow base e size (.slice (some ⟨g, 0, none⟩) (n + 1) cap) (n + 1) (xs ++ news) → Chg (fun i => v.ownBlock = some i) w w' → (v.ownBlock = some g ∨ g = w.heap.size) → wpList P ops Q rest (a.put o.dst (.slice (some ⟨g, 0, none⟩) (n + 1) cap)) w') : wpList P ops Q (o :: rest) a w := by
  obtain ⟨i0, hi, hz0, hz1, hz2⟩ := info_cut info
  refine wpList_append_own_at w hgd s x t ho base e i0 z size bytes ht hi hz0 hz1 hz2 hz hsz v n xs hs hown ⟨nb, 0, none⟩ 1 c news hx (by rw [hl]; omega) ?_ h1 (by unfold maxLen; omega) ?_ hbase ?_
  · intro j u hj
    have e : (⟨nb, 0, none⟩ : Addr).add j = ⟨nb, j, none⟩ := by unfold Addr.add; split <;> simp_all
    rw [e, cell_of_row _ _ _ _ _ _ hnew]
    simpa using hj
  · have : (n + 1) * bytes ≤ 1000001 * 1000 := Nat.mul_le_mul (by omega) hby
    omega
  · intro v' w' r1 r2 _ r4
    obtain ⟨g, cap, cur, rfl, _⟩ := ownsRow_form r1 (by omega)
    refine h g cap w' r1 (Chg.grown r2 (fun k hk => hk)) ?_
    rcases r4 with r4 | r4
    · exact Or.inl (by rw [← r4]; rfl)
    · exact Or.inr (by simpa [Value.ownBlock] using r4)
/-- Where the law's own q is laid, in any order: what stands when. -/
structure I29 (w : World) (p : Bx) (b : Nat → Bool) (v25 v153 v154 v155 v156 : Value) (w' : World) : Prop where
  ch : Chg (fun _ => False) w w'
  b0 : b 0 = true → v153 = .agg (cells6 p)
  b1 : b 1 = true → v154 = .agg (cells6 p)
  b2 : b 2 = true → v155 = .int .i64 (vol p)
  b3 : b 3 = true → v156 = .agg (cells7 ⟨p, vol p⟩)
  b4 : b 4 = true → ∃ qb c0 c1 c2 c3 c4 c5 c6, v25 = .pointer (some ⟨qb, 0, none⟩) ∧ w.heap.size ≤ qb ∧ w'.heap[qb]? = some (.cells #[c0, c1, c2, c3, c4, c5, c6] 35 (0, 0)) ∧ (b 5 = true → #[c0, c1, c2, c3, c4, c5, c6] = cells7 ⟨p, vol p⟩)
  d5 : b 5 = true → b 4 = true
theorem I29.first (w : World) (p : Bx) : I29 w p (fun _ => false) undef undef undef undef undef w.drew :=
  ⟨Chg.drew _ _, fun h => (by cases h), fun h => (by cases h), fun h => (by cases h), fun h => (by cases h), fun h => (by cases h), fun h => (by cases h)⟩
section
variable {w : World} {p : Bx} {b : Nat → Bool} {v25 v153 v154 v155 v156 : Value} {w' : World}
theorem I29.world (h : I29 w p b v25 v153 v154 v155 v156 w') {w2 : World} (hc : Chg (fun _ => False) w' w2) : I29 w p b v25 v153 v154 v155 v156 w2 := by
  refine ⟨h.ch.trans hc, h.b0, h.b1, h.b2, h.b3, fun hb => ?_, h.d5⟩
  obtain ⟨pb, c0, c1, c2, c3, c4, c5, c6, e, hl, hr, h6⟩ := h.b4 hb
  exact ⟨pb, c0, c1, c2, c3, c4, c5, c6, e, hl, hc.at hr (fun h => h), h6⟩
theorem I29.s0 (h : I29 w p b v25 v153 v154 v155 v156 w') : I29 w p (fun j => decide (j = 0) || b j) v25 (.agg (cells6 p)) v154 v155 v156 w' := ⟨h.ch, fun _ => rfl, h.b1, h.b2, h.b3, h.b4, h.d5⟩
theorem I29.s1 (h : I29 w p b v25 v153 v154 v155 v156 w') : I29 w p (fun j => decide (j = 1) || b j) v25 v153 (.agg (cells6 p)) v155 v156 w' := ⟨h.ch, h.b0, fun _ => rfl, h.b2, h.b3, h.b4, h.d5⟩
theorem I29.s2 (h : I29 w p b v25 v153 v154 v155 v156 w') {w2 : World} (hc : Chg (fun _ => False) w' w2) : I29 w p (fun j => decide (j = 2) || b j) v25 v153 v154 (.int .i64 (vol p)) v156 w2 :=
  have h := h.world hc
  ⟨h.ch, h.b0, h.b1, fun _ => rfl, h.b3, h.b4, h.d5⟩
theorem I29.s3 (h : I29 w p b v25 v153 v154 v155 v156 w') : I29 w p (fun j => decide (j = 3) || b j) v25 v153 v154 v155 (.agg (cells7 ⟨p, vol p⟩)) w' := ⟨h.ch, h.b0, h.b1, h.b2, fun _ => rfl, h.b4, h.d5⟩
theorem I29.s4 (h : I29 w p b v25 v153 v154 v155 v156 w') (hk : b 4 = false) (c0 c1 c2 c3 c4 c5 c6 : Value) : I29 w p (fun j => decide (j = 4) || b j) (.pointer (some ⟨w'.heap.size, 0, none⟩)) v153 v154 v155 v156 (w'.alloc (.cells #[c0, c1, c2, c3, c4, c5, c6] 35)) := by
  have hw := h.world (Chg.alloc _ w' (.cells #[c0, c1, c2, c3, c4, c5, c6] 35))
  refine ⟨hw.ch, hw.b0, hw.b1, hw.b2, hw.b3, fun _ => ⟨w'.heap.size, c0, c1, c2, c3, c4, c5, c6, rfl, h.ch.size, heap_alloc_new w' _, fun h6 => ?_⟩, fun _ => rfl⟩
  have := h.d5 h6
  rw [hk] at this; cases this
theorem I29.s5 {qb : Nat} (h : I29 w p b (.pointer (some ⟨qb, 0, none⟩)) v153 v154 v155 v156 w') (h4 : b 4 = true) {W : World} (hc : Chg (fun i => i = qb) w' W) (hr : W.heap[qb]? = some (.cells (cells7 ⟨p, vol p⟩) 35 (0, 0))) :
    I29 w p (fun j => decide (j = 5) || b j) (.pointer (some ⟨qb, 0, none⟩)) v153 v154 v155 v156 W := by
  obtain ⟨pb', c0, c1, c2, c3, c4, c5, c6, e, hl, _, _⟩ := h.b4 h4
  have e' : qb = pb' := by simpa using e
  subst e'
  exact ⟨h.ch.then hc (fun i hi => Or.inr (by omega)), h.b0, h.b1, h.b2, h.b3, fun _ => ⟨qb, _, _, _, _, _, _, _, rfl, hl, hr, fun _ => rfl⟩, fun _ => h4⟩
end
end Go.Proofs.Ybulkamqs
