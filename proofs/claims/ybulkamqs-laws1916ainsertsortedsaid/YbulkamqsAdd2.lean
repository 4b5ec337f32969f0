/-
  OUR OWN. b1916a: laws for addPiece (9): an append of one element inside a region that draws; seven stores into a row.
-/
import Derived.Test.YbulkamqsAdd
namespace Go.Proofs.Ybulkamqs
open Go.RowKit
set_option linter.unusedVariables false
set_option linter.unusedSimpArgs false
/-- 'append(s, x)' in a region that draws, where s is a row of the call's own and x was just laid. -/
theorem step_append_new {P : Program} {ops : Array Oper} {o : Oper} {a : Act} {w : World} {K : Act → World → Prop} {Q : Exit → Act → World → Prop} {E : Prop} (hgd : o.guard = none) (s x : Operand) (t : TypeId)
    (ho : o.op = .call { callee := .builtin .append, args := #[s, x], argTypes := #[t, t] })
    (base : Nat) (e : TypeId) (z : Value) (size bytes : Nat) (info : (P.info? e).map (fun i => (i.zero, i.size, i.bytes)) = some (some z, size, bytes)) (hz : z.cells.size = size) (hsz : 0 < size) (ht : P.underlying t = some (.slice e))
    (v : Value) (n : Nat) (xs : List Value) (hs : a.eval s = v) (hown : w.ownsRow base e size v n xs) (nb c : Nat) (news : List Value) (hx : a.eval x = .slice (some ⟨nb, 0, none⟩) 1 c) (hl : news.length = size)
    (hnew : w.heap[nb]? = some (.cells news.toArray e (0, 0))) (h1 : ∀ u ∈ news, u.oneCell' = true) (hn : n ≤ 1000000) (hby : bytes ≤ 1000) (hbase : base ≤ w.heap.size)
    (h : ∀ g cap w', w'.ownsRow base e size (.slice (some ⟨g, 0, none⟩) (n + 1) cap) (n + 1) (xs ++ news) → Chg (fun i => v.ownBlock = some i) w w' → (v.ownBlock = some g ∨ g = w.heap.size) → K (a.put o.dst (.slice (some ⟨g, 0, none⟩) (n + 1) cap)) w') :
    if Region.wanted o (yielded ops a.tmps) = true then Oper.wp P o a w K Q else E := by
  obtain ⟨i0, hi, hz0, hz1, hz2⟩ := info_cut info
  refine step_append_own hgd s x t ho base e i0 z size bytes ht hi hz0 hz1 hz2 hz hsz v n xs hs hown ⟨nb, 0, none⟩ 1 c news hx (by rw [hl]; omega) ?_ h1 (by unfold maxLen; omega) ?_ hbase ?_
  · intro j u hj
    have e : (⟨nb, 0, none⟩ : Addr).add j = ⟨nb, j, none⟩ := by unfold Addr.add; split <;> simp_all
    rw [e, cell_of_row _ _ _ _ _ _ hnew]
    simpa using hj
  · have : (n + 1) * bytes ≤ 1000001 * 1000 := Nat.mul_le_mul (by omega) hby
    omega
  · intro v' w' r1 r2 r4
    obtain ⟨g, cap, cur, rfl, _⟩ := ownsRow_form r1 (by omega)
    refine h g cap w' r1 (Chg.grown r2 (fun k hk => hk)) ?_
    rcases r4 with r4 | r4
    · exact Or.inl (by rw [← r4]; rfl)
    · exact Or.inr (by simpa [Value.ownBlock] using r4)
/-- Seven stores, one behind the other. -/
abbrev put7 (w : World) (b o : Nat) (v0 v1 v2 v3 v4 v5 v6 : Value) : World :=
  (((((((w.setCell ⟨b, o, none⟩ v0).setCell ⟨b, o + 1, none⟩ v1).setCell ⟨b, o + 2, none⟩ v2).setCell ⟨b, o + 3, none⟩ v3).setCell ⟨b, o + 4, none⟩ v4).setCell ⟨b, o + 5, none⟩ v5).setCell ⟨b, o + 6, none⟩ v6)
theorem put7_chg (w : World) (b o : Nat) (v0 v1 v2 v3 v4 v5 v6 : Value) : Chg (fun i => i = b) w (put7 w b o v0 v1 v2 v3 v4 v5 v6) := by
  refine Chg.trans ?_ (Chg.setCell _ _ _ _ rfl)
  refine Chg.trans ?_ (Chg.setCell _ _ _ _ rfl)
  refine Chg.trans ?_ (Chg.setCell _ _ _ _ rfl)
  refine Chg.trans ?_ (Chg.setCell _ _ _ _ rfl)
  refine Chg.trans ?_ (Chg.setCell _ _ _ _ rfl)
  refine Chg.trans ?_ (Chg.setCell _ _ _ _ rfl)
  exact Chg.setCell _ _ _ _ rfl
theorem put7_row {w : World} {b : Nat} {a0 a1 a2 a3 a4 a5 a6 : Value} {t : TypeId} (h : w.heap[b]? = some (.cells #[a0, a1, a2, a3, a4, a5, a6] t (0, 0))) (v0 v1 v2 v3 v4 v5 v6 : Value) :
    (put7 w b 0 v0 v1 v2 v3 v4 v5 v6).heap[b]? = some (.cells #[v0, v1, v2, v3, v4, v5, v6] t (0, 0)) := by
  unfold put7
  have h : (w.setCell ⟨b, 0, none⟩ v0).heap[b]? = some (.cells #[v0, a1, a2, a3, a4, a5, a6] t (0, 0)) := heap_setCell_same w b 0 _ _ v0 h
  generalize w.setCell ⟨b, 0, none⟩ v0 = w1 at *
  have h : (w1.setCell ⟨b, 0 + 1, none⟩ v1).heap[b]? = some (.cells #[v0, v1, a2, a3, a4, a5, a6] t (0, 0)) := heap_setCell_same w1 b 1 _ _ v1 h
  generalize w1.setCell ⟨b, 0 + 1, none⟩ v1 = w2 at *
  have h : (w2.setCell ⟨b, 0 + 2, none⟩ v2).heap[b]? = some (.cells #[v0, v1, v2, a3, a4, a5, a6] t (0, 0)) := heap_setCell_same w2 b 2 _ _ v2 h
  generalize w2.setCell ⟨b, 0 + 2, none⟩ v2 = w3 at *
  have h : (w3.setCell ⟨b, 0 + 3, none⟩ v3).heap[b]? = some (.cells #[v0, v1, v2, v3, a4, a5, a6] t (0, 0)) := heap_setCell_same w3 b 3 _ _ v3 h
  generalize w3.setCell ⟨b, 0 + 3, none⟩ v3 = w4 at *
  have h : (w4.setCell ⟨b, 0 + 4, none⟩ v4).heap[b]? = some (.cells #[v0, v1, v2, v3, v4, a5, a6] t (0, 0)) := heap_setCell_same w4 b 4 _ _ v4 h
  generalize w4.setCell ⟨b, 0 + 4, none⟩ v4 = w5 at *
  have h : (w5.setCell ⟨b, 0 + 5, none⟩ v5).heap[b]? = some (.cells #[v0, v1, v2, v3, v4, v5, a6] t (0, 0)) := heap_setCell_same w5 b 5 _ _ v5 h
  generalize w5.setCell ⟨b, 0 + 5, none⟩ v5 = w6 at *
  have h : (w6.setCell ⟨b, 0 + 6, none⟩ v6).heap[b]? = some (.cells #[v0, v1, v2, v3, v4, v5, v6] t (0, 0)) := heap_setCell_same w6 b 6 _ _ v6 h
  exact h
/-- The same at the block's head, the places as numbers. -/
theorem put7_head {w : World} {b : Nat} {a0 a1 a2 a3 a4 a5 a6 : Value} {t : TypeId} (h : w.heap[b]? = some (.cells #[a0, a1, a2, a3, a4, a5, a6] t (0, 0))) (v0 v1 v2 v3 v4 v5 v6 : Value) {W : World}
    (hW : (((((((w.setCell ⟨b, 0, none⟩ v0).setCell ⟨b, 1, none⟩ v1).setCell ⟨b, 2, none⟩ v2).setCell ⟨b, 3, none⟩ v3).setCell ⟨b, 4, none⟩ v4).setCell ⟨b, 5, none⟩ v5).setCell ⟨b, 6, none⟩ v6) = W) :
    W.heap[b]? = some (.cells #[v0, v1, v2, v3, v4, v5, v6] t (0, 0)) ∧ Chg (fun i => i = b) w W := by
  subst hW
  exact ⟨put7_row h v0 v1 v2 v3 v4 v5 v6, put7_chg w b 0 v0 v1 v2 v3 v4 v5 v6⟩
theorem rows_set : ∀ (L : List Sz) (i : Nat) (s : Sz), i < L.length → (((((((rows L).set (i * 7) (.int .i64 s.b.l0)).set (i * 7 + 1) (.int .i64 s.b.l1)).set (i * 7 + 2) (.int .i64 s.b.l2)).set (i * 7 + 3) (.int .i64 s.b.h0)).set (i * 7 + 4) (.int .i64 s.b.h1)).set (i * 7 + 5) (.int .i64 s.b.h2)).set (i * 7 + 6) (.int .i64 s.n) = rows (L.set i s)
  | [], _, _, h => by simp at h
  | x :: L, 0, s, _ => by simp [rows]
  | x :: L, i + 1, s, h => by
    have ih := rows_set L i s (by simpa using h)
    have e : ∀ k, (i + 1) * 7 + k = i * 7 + k + 1 + 1 + 1 + 1 + 1 + 1 + 1 := fun k => by omega
    have e0 : (i + 1) * 7 = i * 7 + 1 + 1 + 1 + 1 + 1 + 1 + 1 := by omega
    rw [e 1, e 2, e 3, e 4, e 5, e 6, e0]
    simp only [rows, row7, List.cons_append, List.nil_append, List.set_cons_succ, ih]
theorem own_put7 {w : World} {B g n cap : Nat} {L : List Sz} (ho : w.ownsRow B 35 7 (.slice (some ⟨g, 0, none⟩) n cap) n (rows L)) (i : Nat) (hi : i < L.length) (s : Sz) :
    (put7 w g (i * 7) (.int .i64 s.b.l0) (.int .i64 s.b.l1) (.int .i64 s.b.l2) (.int .i64 s.b.h0) (.int .i64 s.b.h1) (.int .i64 s.b.h2) (.int .i64 s.n)).ownsRow B 35 7 (.slice (some ⟨g, 0, none⟩) n cap) n (rows (L.set i s)) := by
  have hl := rows_len L
  rw [← rows_set L i s hi]
  have h := ownsRow_set ho (i * 7) (by omega) (.int .i64 s.b.l0)
  have h := ownsRow_set h (i * 7 + 1) (by simp only [List.length_set]; omega) (.int .i64 s.b.l1)
  have h := ownsRow_set h (i * 7 + 2) (by simp only [List.length_set]; omega) (.int .i64 s.b.l2)
  have h := ownsRow_set h (i * 7 + 3) (by simp only [List.length_set]; omega) (.int .i64 s.b.h0)
  have h := ownsRow_set h (i * 7 + 4) (by simp only [List.length_set]; omega) (.int .i64 s.b.h1)
  have h := ownsRow_set h (i * 7 + 5) (by simp only [List.length_set]; omega) (.int .i64 s.b.h2)
  have h := ownsRow_set h (i * 7 + 6) (by simp only [List.length_set]; omega) (.int .i64 s.n)
  exact h
theorem shift_at (L : List Sz) (j : Nat) (x s : Sz) (hj : L[j]? = some s) : (L.take (j + 1) ++ x :: L.drop (j + 1)).set (j + 1) s = L.take j ++ s :: L.drop j := by
  have hlt : j < L.length := by rcases Nat.lt_or_ge j L.length with h | h; exact h; rw [List.getElem?_eq_none h] at hj; cases hj
  have e : L[j] = s := by rw [List.getElem?_eq_getElem hlt] at hj; simpa using hj
  rw [List.set_append_right _ _ (by simp; omega), List.length_take, Nat.min_eq_left (by omega), Nat.sub_self, List.set_cons_zero, List.take_succ_eq_append_getElem hlt, List.append_assoc, ← List.getElem_cons_drop hlt, e]
  rfl
theorem put_at (L : List Sz) (j : Nat) (x s : Sz) (hj : j ≤ L.length) : (L.take j ++ x :: L.drop j).set j s = L.take j ++ s :: L.drop j := by
  rw [List.set_append_right _ _ (by simp; omega), List.length_take, Nat.min_eq_left hj, Nat.sub_self, List.set_cons_zero]
theorem hole_at (L : List Sz) (j i : Nat) (x s : Sz) (hi : i < j) (h : L[i]? = some s) : (L.take j ++ x :: L.drop j)[i]? = some s := by
  have hlt : i < L.length := by rcases Nat.lt_or_ge i L.length with h' | h'; exact h'; rw [List.getElem?_eq_none h'] at h; cases h
  rw [List.getElem?_append_left (by simp; omega), List.getElem?_take, if_pos hi]; exact h
theorem hole_self (L : List Sz) (j : Nat) (x : Sz) (hj : j ≤ L.length) : (L.take j ++ x :: L.drop j)[j]? = some x := by
  rw [List.getElem?_append_right (by simp; omega), List.length_take, Nat.min_eq_left hj, Nat.sub_self]; rfl
theorem hole_len (L : List Sz) (j : Nat) (x : Sz) (hj : j ≤ L.length) : (L.take j ++ x :: L.drop j).length = L.length + 1 := by
  simp; omega
/-- Where addPiece ends: the row is laid into the splitter. -/
theorem add_close {w wz wr W : World} {fc sb B g cap t : Nat} {L : List Sz} {A : Nat → Value} {r0 r1 r2 : Int} {ko turn : Bool} {p : Bx} (hfc : fc < 6) (hB : sb < B) (htl : t ≤ L.length)
    (hz : Chg (fun i => i = sb ∨ (A fc).ownBlock = some i) w wz) (hrz : wz.heap[sb]? = some (spRow A r0 r1 r2 turn ko)) (hg : (A fc).ownBlock = some g ∨ w.heap.size ≤ g) (hcr : Chg (fun i => i = g) wz wr) (hc7 : Chg (fun i => i = g) wr W)
    (ho7 : W.ownsRow B 35 7 (.slice (some ⟨g, 0, none⟩) (L.length + 1) cap) (L.length + 1) (rows (L.take t ++ ⟨p, vol p⟩ :: L.drop t)))
    (h1 : ∀ i s, i + 1 = t → L[i]? = some s → vol p ≤ s.n) (h2 : ∀ i s, t ≤ i → L[i]? = some s → s.n < vol p) :
    ∃ v c, c ≤ L.length ∧ (W.setCell ⟨sb, 8 + fc, none⟩ (.slice (some ⟨g, 0, none⟩) (L.length + 1) cap)).heap[sb]? = some (spRow (upd A fc v) r0 r1 r2 turn ko) ∧
      (W.setCell ⟨sb, 8 + fc, none⟩ (.slice (some ⟨g, 0, none⟩) (L.length + 1) cap)).ownsRow B 35 7 v (L.length + 1) (rows (L.take c ++ ⟨p, vol p⟩ :: L.drop c)) ∧ (∀ i s, i + 1 = c → L[i]? = some s → vol p ≤ s.n) ∧ (∀ i s, c ≤ i → L[i]? = some s → s.n < vol p) ∧
      Chg (fun i => i = sb ∨ (A fc).ownBlock = some i) w (W.setCell ⟨sb, 8 + fc, none⟩ (.slice (some ⟨g, 0, none⟩) (L.length + 1) cap)) := by
  have hge := (ho7.lt g rfl).1
  have hrW := (hcr.trans hc7).at hrz (fun h => by omega)
  refine ⟨_, t, htl, sp_set hrW fc hfc _, (Chg.setCell (fun i => i = sb) W _ _ rfl).ownsRow ho7 (fun k hk e => by have := (ho7.lt k hk).1; omega), h1, h2, ?_⟩
  refine (hz.then (hcr.trans hc7) (fun i hi => ?_)).then (Chg.setCell (fun i => i = sb) W _ _ rfl) (fun i hi => Or.inl (Or.inl hi))
  rcases hg with hg | hg
  · exact Or.inl (Or.inr (by rw [hi]; exact hg))
  · exact Or.inr (by rw [hi]; exact hg)
end Go.Proofs.Ybulkamqs
