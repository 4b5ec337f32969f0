/-
  OUR OWN. b1916a: rows of sized boxes; slices.Clone (16), walked.
-/
import Derived.Test.YbulkamqsEq
import Derived.Test.YbulkamqsLeaf2
import Derived.Lib.SliceRun
namespace Go.Proofs.Ybulkamqs
open Go.RowKit
set_option linter.unusedVariables false
set_option linter.unusedSimpArgs false
abbrev row7 (s : Sz) : List Value := [.int .i64 s.b.l0, .int .i64 s.b.l1, .int .i64 s.b.l2, .int .i64 s.b.h0, .int .i64 s.b.h1, .int .i64 s.b.h2, .int .i64 s.n]
def rows : List Sz → List Value
  | [] => []
  | s :: L => row7 s ++ rows L
theorem rows_append : ∀ (L M : List Sz), rows (L ++ M) = rows L ++ rows M
  | [], M => rfl
  | s :: L, M => by simp [rows, rows_append L M]
theorem rows_len : ∀ L : List Sz, (rows L).length = L.length * 7
  | [] => rfl
  | s :: L => by simp [rows, rows_len L]; omega
theorem rows_at : ∀ (L : List Sz) (i : Nat) (s : Sz), L[i]? = some s → ∀ k, k < 7 → (rows L)[i * 7 + k]? = (row7 s)[k]?
  | [], _, _, h, _, _ => by simp at h
  | x :: L, 0, s, h, k, hk => by
    simp at h; subst h
    unfold rows
    rw [List.getElem?_append_left (by simp; omega)]
    congr 1; omega
  | x :: L, i + 1, s, h, k, hk => by
    unfold rows
    rw [List.getElem?_append_right (by simp; omega)]
    have := rows_at L i s (by simpa using h) k hk
    rw [← this]
    congr 1
    simp
    omega
theorem rows_one : ∀ L : List Sz, ∀ u ∈ rows L, u.oneCell' = true
  | [], u, h => by cases h
  | s :: L, u, h => by
    unfold rows at h
    rcases List.mem_append.1 h with h | h
    · simp at h
      rcases h with rfl | rfl | rfl | rfl | rfl | rfl | rfl <;> rfl
    · exact rows_one L u h
theorem szAt_of {w : World} {B g n cap : Nat} {L : List Sz} (h : w.ownsRow B 35 7 (.slice (some ⟨g, 0, none⟩) n cap) n (rows L)) {i : Nat} {s : Sz} (hi : L[i]? = some s) : SzAt w g i s :=
  ⟨ownsRow_cell h ((rows_at L i s hi 0 (by omega)).trans rfl), ownsRow_cell h ((rows_at L i s hi 1 (by omega)).trans rfl), ownsRow_cell h ((rows_at L i s hi 2 (by omega)).trans rfl), ownsRow_cell h ((rows_at L i s hi 3 (by omega)).trans rfl),
   ownsRow_cell h ((rows_at L i s hi 4 (by omega)).trans rfl), ownsRow_cell h ((rows_at L i s hi 5 (by omega)).trans rfl), ownsRow_cell h ((rows_at L i s hi 6 (by omega)).trans rfl)⟩
theorem info_cut {P : Program} {e : TypeId} {z : Value} {s b : Nat} (h : (P.info? e).map (fun i => (i.zero, i.size, i.bytes)) = some (some z, s, b)) : ∃ i, P.info? e = some i ∧ i.zero = some z ∧ i.size = s ∧ i.bytes = b := by
  cases hi : P.info? e with
  | none => rw [hi] at h; cases h
  | some i => rw [hi] at h; simp at h; exact ⟨i, rfl, h.1, h.2.1, h.2.2⟩
theorem info35 : (Yba.prog.info? 35).map (fun i => (i.zero, i.size, i.bytes)) = some (some (.agg #[.int .i64 0, .int .i64 0, .int .i64 0, .int .i64 0, .int .i64 0, .int .i64 0, .int .i64 0]), 7, 56) := by kernel_rfl

set_option maxRecDepth 20000 in
set_option maxHeartbeats 800000 in
theorem clone_walk (B g cap : Nat) (L : List Sz) (w : World) (hL : L.length ≤ 2000) (ho : w.ownsRow B 35 7 (.slice (some ⟨g, 0, none⟩) L.length cap) L.length (rows L)) :
    Calls Yba.prog 16 #[.slice (some ⟨g, 0, none⟩) L.length cap] w fun e w' => ∃ v', e = .returned v' ∧ w'.ownsRow w.heap.size 35 7 v' L.length (rows L) ∧ Chg (fun _ => False) w w' := by
  have heq := Go.Lib.run_eql_slice_nil (P := Yba.prog) w 30 35 (some ⟨g, 0, none⟩) L.length cap 0 0 Yba.underlying30
  go_enter Yba.func16, Yba.ntmps16
  have hown0 : (w.alloc (.cells #[] 35)).ownsRow w.heap.size 35 7 (.slice (some ⟨w.heap.size, 0, none⟩) 0 0) 0 [] := ⟨rfl, .inr ⟨w.heap.size, 0, #[], rfl, Nat.le_refl _, heap_alloc_new w _, Nat.le_refl _, Nat.zero_le _, rfl, rfl⟩⟩
  have ho1 := ho.alloc (.cells #[] 35)
  obtain ⟨i0, hi, hz0, hz1, hz2⟩ := info_cut info35
  have hcl : ∀ j u, (rows L)[j]? = some u → (w.alloc (.cells #[] 35)).cell? ((⟨g, 0, none⟩ : Addr).add j) = some u := by
    intro j u hj
    have e : (⟨g, 0, none⟩ : Addr).add j = ⟨g, j, none⟩ := by unfold Addr.add; split <;> simp_all
    rw [e]
    exact ownsRow_cell ho1 hj
  have hl := rows_len L
  go_wp2_with (at_builtin; refine wpList_append_own_at _ rfl (.tmp 5) (.tmp 6) 30 rfl w.heap.size 35 i0 _ 7 56 Yba.underlying30 hi hz0 hz1 hz2 rfl (by decide) (.slice (some ⟨w.heap.size, 0, none⟩) 0 0) 0 [] rfl hown0 ⟨g, 0, none⟩ L.length cap (rows L) rfl hl hcl (rows_one L) (by unfold maxLen; omega) (by omega) (by simp) ?_; intro v' w' r1 r2 r3 r4)
  go_ret
  rw [Nat.zero_add, List.nil_append] at r1
  exact ⟨v', rfl, r1, (Chg.alloc (fun _ => False) w _).then (Chg.grown (S := fun i => i = w.heap.size) r2 (fun k hk => by simpa [Value.ownBlock] using hk.symm)) (fun i hi => Or.inr (by omega))⟩
end Go.Proofs.Ybulkamqs
