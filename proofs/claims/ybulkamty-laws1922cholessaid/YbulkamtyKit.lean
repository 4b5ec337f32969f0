/-
  OUR OWN. b1922a: general laws for the walks: rows of structs, appends of one element. No project text.
-/
import Derived.Test.YbulkamtyBase
namespace Go.Proofs.Ybulkamty
open Go.RowKit
set_option linter.unusedVariables false
set_option linter.unusedSimpArgs false
theorem Chg.cell {S : Nat → Prop} {w w' : World} (h : Chg S w w') {b o : Nat} {v : Value} (hc : w.cell? ⟨b, o, none⟩ = some v) (hs : ¬ S b) : w'.cell? ⟨b, o, none⟩ = some v := by
  have hb : b < w.heap.size := block_lt_of_cell hc
  have := h.block b hb hs
  unfold World.cell? at hc ⊢
  rw [this]
  exact hc
theorem alloc_new2 (w : World) (A B : Obj) : ((w.alloc A).alloc B).heap[w.heap.size + 1]? = some B := by
  have := heap_alloc_new (w.alloc A) B
  rwa [World.size_alloc] at this
theorem len_of {w : World} {base : Nat} {e : TypeId} {size : Nat} {v : Value} {n : Nat} {xs : List Value} (ho : w.ownsRow base e size v n xs) : ∃ a c, v = .slice a n c := by
  rcases ho.2 with ⟨rfl, rfl⟩ | ⟨g, cap, cur, rfl, _⟩
  · exact ⟨none, 0, rfl⟩
  · exact ⟨_, _, rfl⟩
theorem ownsRow_le {w : World} {base base' : Nat} {e : TypeId} {size : Nat} {v : Value} {n : Nat} {xs : List Value} (ho : w.ownsRow base e size v n xs) (h : base' ≤ base) : w.ownsRow base' e size v n xs := by
  refine ⟨ho.1, ?_⟩
  rcases ho.2 with h0 | ⟨g, cap, cur, h1, h2, h3⟩
  · exact .inl h0
  · exact .inr ⟨g, cap, cur, h1, Nat.le_trans h h2, h3⟩
theorem info_cut {P : Program} {e : TypeId} {z : Value} {s b : Nat} (h : (P.info? e).map (fun i => (i.zero, i.size, i.bytes)) = some (some z, s, b)) : ∃ i, P.info? e = some i ∧ i.zero = some z ∧ i.size = s ∧ i.bytes = b := by
  cases hi : P.info? e with
  | none => rw [hi] at h; cases h
  | some i => rw [hi] at h; simp at h; exact ⟨i, rfl, h.1, h.2.1, h.2.2⟩
/-- 'append(s, x)' where s is a row of the call's own and x was just laid. -/
theorem wpList_append_new {P : Program} {ops : Array Oper} {rest : List Oper} {o : Oper} {a : Act} {w : World} {Q : Exit → Act → World → Prop} (hgd : o.guard = none) (s x : Operand) (t : TypeId)
    (ho : o.op = .call { callee := .builtin .append, args := #[s, x], argTypes := #[t, t] })
    (base : Nat) (e : TypeId) (z : Value) (size bytes : Nat) (info : (P.info? e).map (fun i => (i.zero, i.size, i.bytes)) = some (some z, size, bytes)) (hz : z.cells.size = size) (hsz : 0 < size) (ht : P.underlying t = some (.slice e))
    (v : Value) (n : Nat) (xs : List Value) (hs : a.eval s = v) (hown : w.ownsRow base e size v n xs) (nb c : Nat) (news : List Value) (hx : a.eval x = .slice (some ⟨nb, 0, none⟩) 1 c) (hl : news.length = size)
    (hnew : w.heap[nb]? = some (.cells news.toArray e (0, 0))) (h1 : ∀ u ∈ news, u.oneCell' = true) (hn : n ≤ 1000000) (hby : bytes ≤ 1000) (hbase : base ≤ w.heap.size)
    (h : ∀ g cap w', w'.ownsRow base e size (.slice (some ⟨g, 0, none⟩) (n + 1) cap) (n + 1) (xs ++ news) → Chg (fun i => v.ownBlock = some i) w w' → (v.ownBlock = some g ∨ g = w.heap.size) → wpList P ops Q rest (a.put o.dst (.slice (some ⟨g, 0, none⟩) (n + 1) cap)) w') : wpList P ops Q (o :: rest) a w := by
  obtain ⟨i0, hi, hz0, hz1, hz2⟩ := info_cut info
  refine wpList_append_own_at w hgd s x t ho base e i0 z size bytes ht hi hz0 hz1 hz2 hz hsz v n xs hs hown ⟨nb, 0, none⟩ 1 c news hx (by rw [hl]; omega) ?_ h1 (by unfold maxLen; omega) ?_ hbase ?_
  · intro j u hj
    have e : (⟨nb, 0, none⟩ : Addr).add j = ⟨nb, j, none⟩ := by unfold Addr.add; split <;> simp_all
    rw [e, cell_of_row _ _ _ _ _ _ hnew]
    simpa using hj
  · have : (n + 1) * bytes ≤ 1000001 * 1000 := Nat.mul_le_mul (by omega) hby
    omega
  · intro v' w' r1 r2 _ r4
    obtain ⟨g, cap, cur, rfl, _⟩ := ownsRow_form r1 (by omega)
    refine h g cap w' r1 (Chg.grown r2 (fun k hk => hk)) ?_
    rcases r4 with r4 | r4
    · exact Or.inl (by rw [← r4]; rfl)
    · exact Or.inr (by simpa [Value.ownBlock] using r4)
/-- The same in a region that draws. -/
theorem step_append_new {P : Program} {ops : Array Oper} {o : Oper} {a : Act} {w : World} {K : Act → World → Prop} {Q : Exit → Act → World → Prop} {E : Prop} (hgd : o.guard = none) (s x : Operand) (t : TypeId)
    (ho : o.op = .call { callee := .builtin .append, args := #[s, x], argTypes := #[t, t] })
    (base : Nat) (e : TypeId) (z : Value) (size bytes : Nat) (info : (P.info? e).map (fun i => (i.zero, i.size, i.bytes)) = some (some z, size, bytes)) (hz : z.cells.size = size) (hsz : 0 < size) (ht : P.underlying t = some (.slice e))
    (v : Value) (n : Nat) (xs : List Value) (hs : a.eval s = v) (hown : w.ownsRow base e size v n xs) (nb c : Nat) (news : List Value) (hx : a.eval x = .slice (some ⟨nb, 0, none⟩) 1 c) (hl : news.length = size)
    (hnew : w.heap[nb]? = some (.cells news.toArray e (0, 0))) (h1 : ∀ u ∈ news, u.oneCell' = true) (hn : n ≤ 1000000) (hby : bytes ≤ 1000) (hbase : base ≤ w.heap.size)
    (h : ∀ g cap w', w'.ownsRow base e size (.slice (some ⟨g, 0, none⟩) (n + 1) cap) (n + 1) (xs ++ news) → Chg (fun i => v.ownBlock = some i) w w' → (v.ownBlock = some g ∨ g = w.heap.size) → K (a.put o.dst (.slice (some ⟨g, 0, none⟩) (n + 1) cap)) w') :
    if Region.wanted o (yielded ops a.tmps) = true then Oper.wp P o a w K Q else E := by
  obtain ⟨i0, hi, hz0, hz1, hz2⟩ := info_cut info
  refine step_append_own hgd s x t ho base e i0 z size bytes ht hi hz0 hz1 hz2 hz hsz v n xs hs hown ⟨nb, 0, none⟩ 1 c news hx (by rw [hl]; omega) ?_ h1 (by unfold maxLen; omega) ?_ hbase ?_
  · intro j u hj
    have e : (⟨nb, 0, none⟩ : Addr).add j = ⟨nb, j, none⟩ := by unfold Addr.add; split <;> simp_all
    rw [e, cell_of_row _ _ _ _ _ _ hnew]
    simpa using hj
  · have : (n + 1) * bytes ≤ 1000001 * 1000 := Nat.mul_le_mul (by omega) hby
    omega
  · intro v' w' r1 r2 r4
    obtain ⟨g, cap, cur, rfl, _⟩ := ownsRow_form r1 (by omega)
    refine h g cap w' r1 (Chg.grown r2 (fun k hk => hk)) ?_
    rcases r4 with r4 | r4
    · exact Or.inl (by rw [← r4]; rfl)
    · exact Or.inr (by simpa [Value.ownBlock] using r4)

/-! ### a list of elements as a list of cells -/
def cellsOfL {α : Type} (f : α → List Value) : List α → List Value
  | [] => []
  | s :: L => f s ++ cellsOfL f L
section
variable {α : Type} {f : α → List Value} {k : Nat}
theorem fm_append : ∀ (L M : List α), cellsOfL f (L ++ M) = cellsOfL f L ++ cellsOfL f M
  | [], M => rfl
  | s :: L, M => by simp [cellsOfL, fm_append L M]
theorem fm_one (s : α) : cellsOfL f [s] = f s := by simp [cellsOfL]
theorem fm_len (hf : ∀ s, (f s).length = k) : ∀ L : List α, (cellsOfL f L).length = L.length * k
  | [] => by simp [cellsOfL]
  | s :: L => by simp [cellsOfL, fm_len hf L, hf s, Nat.add_mul]; omega
theorem fm_at (hf : ∀ s, (f s).length = k) : ∀ (L : List α) (i : Nat) (s : α), L[i]? = some s → ∀ j, j < k → (cellsOfL f L)[i * k + j]? = (f s)[j]?
  | [], _, _, h, _, _ => by simp at h
  | x :: L, 0, s, h, j, hj => by
    simp at h; subst h
    unfold cellsOfL
    rw [List.getElem?_append_left (by rw [hf]; omega)]
    congr 1; omega
  | x :: L, i + 1, s, h, j, hj => by
    unfold cellsOfL
    rw [List.getElem?_append_right (by rw [hf, Nat.add_mul]; omega), hf]
    have := fm_at hf L i s (by simpa using h) j hj
    rw [← this]
    congr 1
    rw [Nat.add_mul]
    omega
/-- A cell of an element of an owned row. -/
theorem own_at (hf : ∀ s, (f s).length = k) {w : World} {B g n cap : Nat} {e : TypeId} {L : List α} (h : w.ownsRow B e k (.slice (some ⟨g, 0, none⟩) n cap) n (cellsOfL f L)) {i : Nat} {s : α} (hi : L[i]? = some s) (j : Nat) (u : Value) (hj : j < k) (hu : (f s)[j]? = some u) :
    w.cell? ⟨g, i * k + j, none⟩ = some u := ownsRow_cell h ((fm_at hf L i s hi j hj).trans hu)
end
theorem get_of {α : Type} {L : List α} {i : Nat} (h : i < L.length) : ∃ s, L[i]? = some s := ⟨L[i], List.getElem?_eq_getElem h⟩
theorem lt_of_get {α : Type} {L : List α} {i : Nat} {s : α} (h : L[i]? = some s) : i < L.length := by
  rcases Nat.lt_or_ge i L.length with h' | h'
  · exact h'
  · rw [List.getElem?_eq_none h'] at h; cases h
end Go.Proofs.Ybulkamty
