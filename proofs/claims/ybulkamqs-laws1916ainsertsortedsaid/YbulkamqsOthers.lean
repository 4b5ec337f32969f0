/-
  OUR OWN. b1916a: 'zzs1916aothers' (10), walked.
-/
import Derived.Test.YbulkamqsBuild
namespace Go.Proofs.Ybulkamqs
open Go.RowKit
set_option linter.unusedVariables false
set_option linter.unusedSimpArgs false
set_option maxRecDepth 20000 in
set_option maxHeartbeats 800000 in
theorem others_walk (fc sb : Nat) (A : Nat → Value) (f0 f1 f2 : Int) (kt ko : Bool) (w : World) (hr : w.heap[sb]? = some (spRow A f0 f1 f2 kt ko)) (hb : ∀ j, j < 6 → j ≠ fc → OneBox w (A j) j) :
    Calls Yba.prog 10 #[.pointer (some ⟨sb, 0, none⟩), .int .i64 fc] w fun e w' => e = .returned (.bool true) ∧ w' = w := by
  have HB : Hid (∀ j, j < 6 → j ≠ fc → OneBox w (A j) j) := hb
  have HR : Hid (w.heap[sb]? = some (spRow A f0 f1 f2 kt ko)) := hr
  clear hb hr
  go_enter Yba.func10, Yba.ntmps10
  go_wp2
  go_loopg [5] 6 (fun gk i wr => ∃ t : Nat, gk + t = 6 ∧ i = .int .i64 t ∧ w = wr)
  case atStart => exact ⟨0, rfl, rfl, rfl⟩
  case round =>
    obtain ⟨t, hgt, rfl, rfl⟩ := hrel
    by_cases hlt : t < 6
    · by_cases hft : t = fc
      · subst hft
        go_wp2
        go_roundg (6 - (t + 1))
        case measure => omega
        case rel => exact ⟨t + 1, by omega, by go_num, rfl⟩
      · have hne : ((t : Int) == (fc : Int)) = false := by rw [beq_eq_false_iff_ne]; omega
        obtain ⟨g, hA, hg⟩ := HB.out t hlt hft
        have ct := sp_cell HR.out t hlt
        rw [hA] at ct
        clear hA
        have q0 : w.cell? ⟨g, 0, none⟩ = some (.int .i64 (-1)) := by rw [cell_of_row _ _ _ _ _ _ hg]; rfl
        have q1 : w.cell? ⟨g, 1, none⟩ = some (.int .i64 t) := by rw [cell_of_row _ _ _ _ _ _ hg]; rfl
        have q2 : w.cell? ⟨g, 2, none⟩ = some (.int .i64 0) := by rw [cell_of_row _ _ _ _ _ _ hg]; rfl
        have q3 : w.cell? ⟨g, 3, none⟩ = some (.int .i64 0) := by rw [cell_of_row _ _ _ _ _ _ hg]; rfl
        have q4 : w.cell? ⟨g, 4, none⟩ = some (.int .i64 0) := by rw [cell_of_row _ _ _ _ _ _ hg]; rfl
        have q5 : w.cell? ⟨g, 5, none⟩ = some (.int .i64 0) := by rw [cell_of_row _ _ _ _ _ _ hg]; rfl
        have q6 : w.cell? ⟨g, 6, none⟩ = some (.int .i64 t) := by rw [cell_of_row _ _ _ _ _ _ hg]; rfl
        have hn1 : (Op.equalIn 9998 31 (.agg #[.int .i64 (-1), .int .i64 t, .int .i64 0]) (.agg #[.int .i64 (-1), .int .i64 t, .int .i64 0])).run Yba.prog w = .ok true w := arr_refl 9996 _ _ _ _
        have hn2 : (Op.equalIn 9998 31 (.agg #[.int .i64 0, .int .i64 0, .int .i64 0]) (.agg #[.int .i64 0, .int .i64 0, .int .i64 0])).run Yba.prog w = .ok true w := arr_refl 9996 _ _ _ _
        clear hg
        go_wp2
        go_roundg (6 - (t + 1))
        case measure => omega
        case rel => exact ⟨t + 1, by omega, by go_num, rfl⟩
    · obtain rfl : t = 6 := by omega
      go_wp2
      go_ret
      exact ⟨rfl, rfl⟩
end Go.Proofs.Ybulkamqs
