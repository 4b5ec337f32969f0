/-
  OUR OWN. b1916a: slices.Sort (5) and slices.Reverse (6) on a row of the call's own; what 'make' lays.
-/
import Derived.Test.YbulkamqsShelf
import Derived.Test.YbulkamqsClone
import Derived.Sort.OwnSortedInts
import Derived.Laws.MakeOwn
import Derived.Laws.OwnMore
namespace Go.Proofs.Ybulkamqs
open Go.RowKit Go.Sort
set_option linter.unusedVariables false
set_option linter.unusedSimpArgs false
abbrev ints (zs : List Int) : List Value := zs.map (Value.int .i64)
theorem own_holds {w : World} {B g n cap : Nat} {zs : List Int} (ho : w.ownsRow B 3 1 (.slice (some ⟨g, 0, none⟩) n cap) n (ints zs)) (hn : n = zs.length) :
    Holds (Value.int .i64) w g 0 zs.toArray ∧ g < w.heap.size ∧ B ≤ g ∧ ∃ cur, w.heap[g]? = some (.cells cur 3 (0, 0)) ∧ n ≤ cap ∧ cap ≤ maxLen ∧ cur.size = cap * 1 := by
  rcases ho.2 with ⟨h, _⟩ | ⟨g', cap', cur, hv, hb, hg, hnc, hcm, hcs, ht⟩
  · cases h
  · cases hv
    subst hn
    exact ⟨holds_of_blockI hg (by simpa using ht), lt_of_block hg, hb, cur, hg, hnc, hcm, hcs⟩
theorem sort_own (B g n cap : Nat) (zs : List Int) (w : World) (hn : n = zs.length) (hsz : n ≤ 2000) (ho : w.ownsRow B 3 1 (.slice (some ⟨g, 0, none⟩) n cap) n (ints zs)) :
    Calls Yba.prog 5 #[.slice (some ⟨g, 0, none⟩) n cap] w fun e w' => e = .returned (.tuple #[]) ∧ w'.ownsRow B 3 1 (.slice (some ⟨g, 0, none⟩) n cap) n (ints (zs.mergeSort fun x y => decide (x ≤ y))) ∧ Chg (fun i => i = g) w w' := by
  obtain ⟨hH, hgs, hBg, cur, hcur, h1, h2, h3⟩ := own_holds ho hn
  subst hn
  refine Calls.mono (Yba.slices_Sort_int g 0 cap zs w hH hgs (by omega)) ?_
  rintro e w' ⟨rfl, k, os, rfl⟩
  refine ⟨rfl, ownsRow_sortedI (by simp) hBg hcur h1 h2 h3, Chg.grown (grownBy_sortedI _) (fun k hk => by cases hk; rfl)⟩
theorem grow_none (w : World) : grow w #[] = w := by simp [grow]
theorem rev_own (B g n cap : Nat) (zs : List Int) (w : World) (hn : n = zs.length) (hsz : n ≤ 2000) (ho : w.ownsRow B 3 1 (.slice (some ⟨g, 0, none⟩) n cap) n (ints zs)) :
    Calls Yba.prog 6 #[.slice (some ⟨g, 0, none⟩) n cap] w fun e w' => e = .returned (.tuple #[]) ∧ w'.ownsRow B 3 1 (.slice (some ⟨g, 0, none⟩) n cap) n (ints zs.reverse) ∧ Chg (fun i => i = g) w w' := by
  obtain ⟨hH, hgs, hBg, cur, hcur, h1, h2, h3⟩ := own_holds ho hn
  subst hn
  refine Calls.mono (Yba.slices_Reverse_int g 0 cap zs w hH (by omega)) ?_
  rintro e w' ⟨rfl, k, rfl⟩
  rw [← grow_none (putRow (Value.int .i64) (Sort.ahead w k) g 0 zs.reverse.toArray)]
  refine ⟨rfl, ownsRow_sortedI (by simp) hBg hcur h1 h2 h3, Chg.grown (grownBy_sortedI _) (fun k hk => by cases hk; rfl)⟩
/-- Where the slice is nil nothing is there to sort; the own rows here are made, never nil. -/
theorem made3 (n : Nat) : (madeCells #[.int .i64 0] (n * 1)).toList = ints (List.replicate n 0) := by
  rw [Nat.mul_one, toList_madeCells_one]
  simp
abbrev z7 : Sz := ⟨⟨0, 0, 0, 0, 0, 0⟩, 0⟩
theorem rows_zero : ∀ n, rows (List.replicate n z7) = List.replicate (n * 7) (.int .i64 0)
  | 0 => rfl
  | n + 1 => by
    rw [List.replicate_succ, rows, rows_zero n, show (n + 1) * 7 = 7 + n * 7 by omega, ← List.replicate_append_replicate]
    rfl
theorem made35 (n : Nat) : (madeCells #[.int .i64 0, .int .i64 0, .int .i64 0, .int .i64 0, .int .i64 0, .int .i64 0, .int .i64 0] (n * 7)).toList = rows (List.replicate n z7) := by
  rw [rows_zero, List.eq_replicate_iff]
  refine ⟨by simp [madeCells], fun b hb => ?_⟩
  simp only [madeCells, Array.toList_map, List.mem_map] at hb
  obtain ⟨i, _, rfl⟩ := hb
  have h7 : i % 7 < 7 := Nat.mod_lt _ (by omega)
  show (#[Value.int .i64 0, .int .i64 0, .int .i64 0, .int .i64 0, .int .i64 0, .int .i64 0, .int .i64 0])[i % 7]! = _
  match i % 7, h7 with
  | 0, _ => rfl
  | 1, _ => rfl
  | 2, _ => rfl
  | 3, _ => rfl
  | 4, _ => rfl
  | 5, _ => rfl
  | 6, _ => rfl
end Go.Proofs.Ybulkamqs
