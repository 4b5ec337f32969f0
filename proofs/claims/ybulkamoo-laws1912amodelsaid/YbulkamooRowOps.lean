/-
  OUR OWN. Three things done to a slice of the call's own whose elements are one cell each: an element taken out of its midst, one put in front, the last one cut off.
-/
import Derived.Test.YbulkamooBase
import Derived.Laws.AppendOwnNone
namespace Go.Proofs.Ybulkamoo
open Go.RowKit
set_option linter.unusedVariables false

theorem eraseIdx_take_drop {α : Type} : ∀ (l : List α) (j : Nat), l.eraseIdx j = l.take j ++ l.drop (j + 1)
  | [], _ => by simp
  | _ :: _, 0 => by simp
  | x :: l, j + 1 => by simp [eraseIdx_take_drop l j]

/-- 'append(s[:j], s[j+1:]...)': the run. -/
theorem run_delete_own {P : Program} {w : World} {t ty e : TypeId} {i : TypeInfo} (ht : P.underlying t = some (.slice e)) (hi : P.info? e = some i) (hsz : i.size = 1) {base g n cap : Nat} {xs : List Value} (ho : w.ownsRow base e 1 (.slice (some ⟨g, 0, none⟩) n cap) n xs)
    (h1 : ∀ u ∈ xs, u.oneCell' = true) {j : Nat} (hj : j < n) (ad : Addr) (c : Nat) (had : ad = ⟨g, j + 1, none⟩ ∨ n = j + 1) :
    ∃ w', (Builtin.append_ #[t, t] ty #[.slice (some ⟨g, 0, none⟩) j cap, .slice (some ad) (n - (j + 1)) c]).run P w = .ok (.slice (some ⟨g, 0, none⟩) (n - 1) cap) w' ∧
      w'.ownsRow base e 1 (.slice (some ⟨g, 0, none⟩) (n - 1) cap) (n - 1) (xs.eraseIdx j) ∧ Chg (fun k => k = g) w w' := by
  have hlx : xs.length = n := by simpa using ho.1
  obtain ⟨g', cap', cur, hv, hb, hg, hnc, hcm, hcs, htk⟩ := ownsRow_form ho (by omega)
  simp only [Value.slice.injEq, Option.some.injEq, Addr.mk.injEq] at hv
  obtain ⟨⟨rfl, _, _⟩, _, rfl⟩ := hv
  rw [Nat.mul_one] at hcs htk
  have hl : (xs.drop (j + 1)).length = (n - (j + 1)) * i.size := by rw [hsz]; simp [hlx]
  have hnews : ∀ (k : Nat) (u : Value), (xs.drop (j + 1))[k]? = some u → w.cell? (ad.add k) = some u := by
    intro k u hk
    rcases had with rfl | hn
    · rw [List.getElem?_drop] at hk
      have := ownsRow_cell ho hk
      rwa [show (⟨g, j + 1, none⟩ : Addr).add k = ⟨g, j + 1 + k, none⟩ by unfold Addr.add; split <;> simp_all]
    · rw [List.drop_eq_nil_of_le (by omega)] at hk; simp at hk
  have hfit : j * i.size + (xs.drop (j + 1)).length ≤ cur.size := by rw [hsz]; simp; omega
  have hr := run_append_room (P := P) w t ty e i ht hi g j cap cur hg ad (n - (j + 1)) c (xs.drop (j + 1)) hl hnews (fun u hu => h1 u (List.mem_of_mem_drop hu)) (by omega) hfit
  rw [show j + (n - (j + 1)) = n - 1 by omega, hsz, Nat.mul_one] at hr
  refine ⟨_, hr, ⟨?_, .inr ⟨g, cap, _, rfl, hb, setRow_heap w g cur _ e _ hg, by omega, hcm, ?_, ?_⟩⟩, ⟨rfl, rfl, rfl, by simp, fun k _ hk => setRow_other w g k _ (fun e => hk (by rw [e]))⟩⟩
  · rw [List.length_eraseIdx, if_pos (by omega)]; omega
  · simp only [List.size_toArray, List.length_append, List.length_take, List.length_drop, Array.length_toList]
    omega
  · have e1 : (cur.toList.take j) = xs.take j := by rw [← htk, List.take_take, Nat.min_eq_left (by omega)]
    rw [e1, eraseIdx_take_drop, Nat.mul_one]
    have e2 : (xs.take j ++ xs.drop (j + 1)).length = n - 1 := by simp [hlx]; omega
    rw [← e2]
    exact List.take_left

/-- .. as one step of a region that draws. -/
theorem step_delete {P : Program} {ops : Array Oper} {o : Oper} {a : Act} {w : World} {K : Act → World → Prop} {Q : Exit → Act → World → Prop} {E : Prop}
    (hgd : o.guard = none) (s x : Operand) (t : TypeId) (hop : o.op = Op.call { callee := Callee.builtin Builtin.append, args := #[s, x], argTypes := #[t, t] })
    (base e : Nat) {z : Value} {bytes : Nat} (info : (P.info? e).map (fun i => (i.zero, i.size, i.bytes)) = some (some z, 1, bytes)) (ht : P.underlying t = some (.slice e)) {g n cap : Nat} {xs : List Value} (ho : w.ownsRow base e 1 (.slice (some ⟨g, 0, none⟩) n cap) n xs)
    (h1 : ∀ u ∈ xs, u.oneCell' = true) {j : Nat} (hj : j < n) (ad : Addr) (c : Nat) (had : ad = ⟨g, j + 1, none⟩ ∨ n = j + 1) (hs : a.eval s = .slice (some ⟨g, 0, none⟩) j cap) (hx : a.eval x = .slice (some ad) (n - (j + 1)) c)
    (hK : ∀ w', w'.ownsRow base e 1 (.slice (some ⟨g, 0, none⟩) (n - 1) cap) (n - 1) (xs.eraseIdx j) → Chg (fun k => k = g) w w' → K (a.put o.dst (.slice (some ⟨g, 0, none⟩) (n - 1) cap)) w') :
    if Region.wanted o (yielded ops a.tmps) = true then Oper.wp P o a w K Q else E := by
  obtain ⟨i0, hi, hz0, hz1, hz2⟩ := info_parts info
  have hw : Region.wanted o (yielded ops a.tmps) = true := by simp [Region.wanted, hgd]
  rw [if_pos hw]
  obtain ⟨w', hrun, r1, r2⟩ := run_delete_own (ty := o.type) ht hi hz1 ho h1 hj ad c had
  unfold Oper.wp execOp
  simp only [hop, resolve, invoke, builtin, Sem.run_bind, Sem.run_pure, Result.andThen_ok, List.map_toArray, List.map_cons, List.map_nil, hs, hx, hrun]
  exact hK w' r1 r2

/-- 'append([]T{u}, s...)'. -/
theorem wpList_front {P : Program} {ops : Array Oper} {rest : List Oper} {o : Oper} {a : Act} {w : World} {Q : Exit → Act → World → Prop} (hgd : o.guard = none) (s x : Operand) (t : TypeId)
    (ho : o.op = .call { callee := .builtin .append, args := #[s, x], argTypes := #[t, t] })
    (base : Nat) (e : TypeId) (z : Value) (bytes : Nat) (info : (P.info? e).map (fun i => (i.zero, i.size, i.bytes)) = some (some z, 1, bytes)) (hz : z.cells.size = 1) (ht : P.underlying t = some (.slice e))
    (hb : Nat) (u : Value) (hs : a.eval s = .slice (some ⟨hb, 0, none⟩) 1 1) (hnew : w.heap[hb]? = some (.cells #[u] e (0, 0))) (hbb : base ≤ hb)
    (v : Value) (n : Nat) (xs : List Value) (hx : a.eval x = v) (hown : w.ownsRow base e 1 v n xs) (h1 : ∀ u ∈ xs, u.oneCell' = true) (hn : n ≤ 100000) (hby : bytes ≤ 64) (hbase : base ≤ w.heap.size)
    (h : ∀ g cap w', w'.ownsRow base e 1 (.slice (some ⟨g, 0, none⟩) (n + 1) cap) (n + 1) (u :: xs) → Chg (fun i => i = hb) w w' → wpList P ops Q rest (a.put o.dst (.slice (some ⟨g, 0, none⟩) (n + 1) cap)) w') : wpList P ops Q (o :: rest) a w := by
  obtain ⟨i0, hi, hz0, hz1, hz2⟩ := info_parts info
  have hone : w.ownsRow base e 1 (.slice (some ⟨hb, 0, none⟩) 1 1) 1 [u] := ⟨rfl, .inr ⟨hb, 1, #[u], rfl, hbb, hnew, Nat.le_refl _, by unfold maxLen; omega, rfl, rfl⟩⟩
  have hlx : xs.length = n := by simpa using hown.1
  rcases hown.2 with ⟨rfl, rfl⟩ | ⟨g, cap, cur, rfl, hbg, hg, hnc, hcm, hcs, htk⟩
  · obtain rfl : xs = [] := List.eq_nil_of_length_eq_zero hlx
    refine wpList_append_own_none hgd s x t ho base e i0 1 ht hi _ 1 [u] hs hone hx ?_
    exact h hb 1 w hone (Chg.rfl' _ _)
  · refine wpList_append_own_at _ hgd s x t ho base e i0 z 1 bytes ht hi hz0 hz1 hz2 hz (by decide) _ 1 [u] hs hone ⟨g, 0, none⟩ n cap xs hx (by simpa using hlx) (hown.cells (g := g) rfl) h1 (by unfold maxLen; omega) ?_ hbase ?_
    · have : (1 + n) * bytes ≤ 100001 * 64 := Nat.mul_le_mul (by omega) hby
      omega
    · intro v' w' h1 h2 h3 h4
      rw [Nat.add_comm 1 n] at h1
      obtain ⟨g', cap', cur', rfl, -⟩ := ownsRow_form h1 (by omega)
      exact h g' cap' w' h1 (Chg.grown h2 (fun k hk => by simpa [Value.ownBlock] using hk.symm))

/-- 's[:len(s)-1]'. -/
theorem ownsRow_cut {w : World} {base : Nat} {e : TypeId} {g n cap : Nat} {xs : List Value} (ho : w.ownsRow base e 1 (.slice (some ⟨g, 0, none⟩) n cap) n xs) (hn : 0 < n) : w.ownsRow base e 1 (.slice (some ⟨g, 0, none⟩) (n - 1) cap) (n - 1) xs.dropLast := by
  have hlx : xs.length = n := by simpa using ho.1
  obtain ⟨g', cap', cur, hv, hb, hg, hnc, hcm, hcs, htk⟩ := ownsRow_form ho hn
  simp only [Value.slice.injEq, Option.some.injEq, Addr.mk.injEq] at hv
  obtain ⟨⟨rfl, _, _⟩, _, rfl⟩ := hv
  refine ⟨by simp [hlx], .inr ⟨g, cap, cur, rfl, hb, hg, by omega, hcm, hcs, ?_⟩⟩
  rw [List.dropLast_eq_take, hlx, ← htk, List.take_take]
  congr 1
  omega
end Go.Proofs.Ybulkamoo
