/-
  OUR OWN. b1916a: 'zzs1916acond' (11), walked, the sort of three numbers with it.
-/
import Derived.Test.YbulkamqsLeaf2
import Derived.Test.YbulkamqsShelf
import Derived.Sort.OwnSortedInts
import Derived.Deep.DeepCutAuto
import Derived.Deep.CutBlock
namespace Go.Proofs.Ybulkamqs
open Go.RowKit
set_option linter.unusedVariables false
set_option linter.unusedSimpArgs false
theorem sort3 (x y z : Int) : [x, y, z].mergeSort (fun a b => decide (a ≤ b)) = [mn3 x y z, x + y + z - mn3 x y z - mx3 x y z, mx3 x y z] := by
  have hs : ([x, y, z].mergeSort (fun a b => decide (a ≤ b))).Pairwise (fun a b => decide (a ≤ b) = true) := List.pairwise_mergeSort (le := fun a b : Int => decide (a ≤ b)) (by intro a b c h1 h2; simp at *; omega) (by intro a b; simp; omega) _
  have hp := List.mergeSort_perm [x, y, z] (fun a b => decide (a ≤ b))
  have hq : ([mn3 x y z, x + y + z - mn3 x y z - mx3 x y z, mx3 x y z]).Perm [x, y, z] := by
    have hc : (mn3 x y z = x ∧ mx3 x y z = z) ∨ (mn3 x y z = x ∧ mx3 x y z = y) ∨ (mn3 x y z = y ∧ mx3 x y z = z) ∨ (mn3 x y z = y ∧ mx3 x y z = x) ∨ (mn3 x y z = z ∧ mx3 x y z = y) ∨ (mn3 x y z = z ∧ mx3 x y z = x) := by
      unfold mn3 mx3
      repeat' split
      all_goals omega
    rcases hc with ⟨h1, h2⟩ | ⟨h1, h2⟩ | ⟨h1, h2⟩ | ⟨h1, h2⟩ | ⟨h1, h2⟩ | ⟨h1, h2⟩
    · rw [h1, h2, show x + y + z - x - z = y by omega]
    · rw [h1, h2, show x + y + z - x - y = z by omega]
      exact (List.Perm.swap y z []).cons x
    · rw [h1, h2, show x + y + z - y - z = x by omega]
      exact List.Perm.swap x y [z]
    · rw [h1, h2, show x + y + z - y - x = z by omega]
      exact ((List.Perm.swap x z []).cons y).trans (List.Perm.swap x y [z])
    · rw [h1, h2, show x + y + z - z - y = x by omega]
      exact (List.Perm.swap x z [y]).trans ((List.Perm.swap y z []).cons x)
    · rw [h1, h2, show x + y + z - z - x = y by omega]
      exact (((List.Perm.swap x y []).cons z).trans (List.Perm.swap x z [y])).trans ((List.Perm.swap y z []).cons x)
  have hs2 : ([mn3 x y z, x + y + z - mn3 x y z - mx3 x y z, mx3 x y z]).Pairwise (fun a b => decide (a ≤ b) = true) := by
    simp [List.pairwise_cons]
    unfold mn3 mx3
    repeat' split
    all_goals omega
  exact (hp.trans hq.symm).eq_of_pairwise (fun a b _ _ h1 h2 => by simp at *; omega) hs hs2

theorem meetsB_eq (p q : Bx) : meetsB p q = ((decide (p.l0 < q.h0) && decide (q.l0 < p.h0)) && ((decide (p.l1 < q.h1) && decide (q.l1 < p.h1)) && (decide (p.l2 < q.h2) && decide (q.l2 < p.h2)))) := by
  unfold meetsB
  cases decide (p.l0 < q.h0) <;> cases decide (q.l0 < p.h0) <;> cases decide (p.l1 < q.h1) <;> cases decide (q.l1 < p.h1) <;> simp
/-- What 'addPiece' asks, and what the law asks. -/
def cond (p q : Bx) (r0 r1 r2 : Int) (ko turn : Bool) : Bool := meetsB p q && (!ko || fits p r0 r1 r2 turn)

theorem condW (w : World) (A B C D : Obj) (N : Nat) : (((((w.alloc A).alloc B).alloc C).drewN N).alloc D).heap[w.heap.size + 1 + 1 + 1]? = some D ∧ (((((w.alloc A).alloc B).alloc C).drewN N).alloc D).heap[w.heap.size + 1 + 1]? = some C ∧ Chg (fun _ => False) w (((((w.alloc A).alloc B).alloc C).drewN N).alloc D) := by
  have s1 := World.size_alloc w A
  have s2 := World.size_alloc (w.alloc A) B
  have s3 := World.size_alloc ((w.alloc A).alloc B) C
  have r3 := heap_alloc_new ((w.alloc A).alloc B) C
  have r4 := heap_alloc_new ((((w.alloc A).alloc B).alloc C).drewN N) D
  have e4 : ((((w.alloc A).alloc B).alloc C).drewN N).heap.size = (((w.alloc A).alloc B).alloc C).heap.size := rfl
  rw [e4, s3, s2, s1] at r4
  rw [s2, s1] at r3
  refine ⟨r4, (Chg.alloc (fun _ => False) _ _).at ((Chg.drewN (fun _ => False) _ N).at r3 (fun h => h)) (fun h => h), ?_⟩
  exact ((((Chg.alloc _ _ _).trans (Chg.alloc _ _ _)).trans (Chg.alloc _ _ _)).trans (Chg.drewN _ _ _)).trans (Chg.alloc _ _ _)

set_option maxRecDepth 20000 in
set_option maxHeartbeats 1600000 in
theorem cond_walk (p q : Bx) (hp : p.Ok) (hq : q.Ok) (r0 r1 r2 : Int) (ko turn : Bool) (w : World) :
    Calls Yba.prog 11 #[.agg (cells6 p), .agg (cells6 q), .bool ko, .bool turn, .agg (arr3 r0 r1 r2)] w fun e w' => e = .returned (.bool (cond p q r0 r1 r2 ko turn)) ∧ Chg (fun _ => False) w w' := by
  have HME : Hid (meetsB p q = ((decide (p.l0 < q.h0) && decide (q.l0 < p.h0)) && ((decide (p.l1 < q.h1) && decide (q.l1 < p.h1)) && (decide (p.l2 < q.h2) && decide (q.l2 < p.h2))))) := meetsB_eq p q
  have HN : Hid (meetsB p q = false → cond p q r0 r1 r2 ko turn = false) := fun h => by rw [cond, h]; rfl
  have HC : Hid (∀ N, Chg (fun _ => False) w ((((w.alloc (.cells (cells6 p) 33)).alloc (.cells (cells6 q) 33)).alloc (.cells (arr3 r0 r1 r2) 31)).drewN N)) := fun N => (((Chg.alloc _ _ _).trans (Chg.alloc _ _ _)).trans (Chg.alloc _ _ _)).trans (Chg.drewN _ _ _)
  go_enter Yba.func11, Yba.ntmps11
  go_wp2
  go_loopg [11] 3 (fun gk i wr => ∃ t N : Nat, gk + t = 3 ∧ i = .int .i64 t ∧ wr = (((w.alloc (.cells (cells6 p) 33)).alloc (.cells (cells6 q) 33)).alloc (.cells (arr3 r0 r1 r2) 31)).drewN N ∧ (1 ≤ t → p.l0 < q.h0 ∧ q.l0 < p.h0) ∧ (2 ≤ t → p.l1 < q.h1 ∧ q.l1 < p.h1) ∧ (3 ≤ t → p.l2 < q.h2 ∧ q.l2 < p.h2))
  case atStart => exact ⟨0, 0, rfl, rfl, rfl, fun h => by omega, fun h => by omega, fun h => by omega⟩
  case round =>
    obtain ⟨t, N, hgt, rfl, rfl, t1, t2, t3⟩ := hrel
    have ht : t = 0 ∨ t = 1 ∨ t = 2 ∨ t = 3 := by omega
    rcases ht with rfl | rfl | rfl | rfl
    · clear t1 t2 t3
      by_cases h1 : p.l0 < q.h0
      · by_cases h2 : q.l0 < p.h0
        · go_wp2
          go_quiet (fail)
          go_wp2
          go_roundg 2
          case measure => omega
          case rel => exact ⟨1, N + nq, rfl, by go_num, rfl, fun _ => ⟨h1, h2⟩, fun h => by omega, fun h => by omega⟩
        · have d2 : decide (q.l0 < p.h0) = false := by simpa using h2
          go_wp2
          go_quiet (fail)
          go_wp2
          go_ret
          exact ⟨by show Ending.returned (Value.bool false) = _; rw [HN.out (by rw [HME.out, d2]; simp)], (HC.out N).trans (Chg.drewN _ _ _)⟩
      · have d1 : decide (p.l0 < q.h0) = false := by simpa using h1
        go_wp2
        go_quiet (fail)
        go_wp2
        go_ret
        exact ⟨by show Ending.returned (Value.bool false) = _; rw [HN.out (by rw [HME.out, d1]; simp)], (HC.out N).trans (Chg.drewN _ _ _)⟩
    · have t1' : 1 ≤ 2 → p.l0 < q.h0 ∧ q.l0 < p.h0 := fun _ => t1 (by omega)
      clear t1 t2 t3
      by_cases h1 : p.l1 < q.h1
      · by_cases h2 : q.l1 < p.h1
        · go_wp2
          go_quiet (fail)
          go_wp2
          go_roundg 1
          case measure => omega
          case rel => exact ⟨2, N + nq, rfl, by go_num, rfl, t1', fun _ => ⟨h1, h2⟩, fun h => by omega⟩
        · have d2 : decide (q.l1 < p.h1) = false := by simpa using h2
          go_wp2
          go_quiet (fail)
          go_wp2
          go_ret
          exact ⟨by show Ending.returned (Value.bool false) = _; rw [HN.out (by rw [HME.out, d2]; simp)], (HC.out N).trans (Chg.drewN _ _ _)⟩
      · have d1 : decide (p.l1 < q.h1) = false := by simpa using h1
        go_wp2
        go_quiet (fail)
        go_wp2
        go_ret
        exact ⟨by show Ending.returned (Value.bool false) = _; rw [HN.out (by rw [HME.out, d1]; simp)], (HC.out N).trans (Chg.drewN _ _ _)⟩
    · have t1' : 1 ≤ 3 → p.l0 < q.h0 ∧ q.l0 < p.h0 := fun _ => t1 (by omega)
      have t2' : 2 ≤ 3 → p.l1 < q.h1 ∧ q.l1 < p.h1 := fun _ => t2 (by omega)
      clear t1 t2 t3
      by_cases h1 : p.l2 < q.h2
      · by_cases h2 : q.l2 < p.h2
        · go_wp2
          go_quiet (fail)
          go_wp2
          go_roundg 0
          case measure => omega
          case rel => exact ⟨3, N + nq, rfl, by go_num, rfl, t1', t2', fun _ => ⟨h1, h2⟩⟩
        · have d2 : decide (q.l2 < p.h2) = false := by simpa using h2
          go_wp2
          go_quiet (fail)
          go_wp2
          go_ret
          exact ⟨by show Ending.returned (Value.bool false) = _; rw [HN.out (by rw [HME.out, d2]; simp)], (HC.out N).trans (Chg.drewN _ _ _)⟩
      · have d1 : decide (p.l2 < q.h2) = false := by simpa using h1
        go_wp2
        go_quiet (fail)
        go_wp2
        go_ret
        exact ⟨by show Ending.returned (Value.bool false) = _; rw [HN.out (by rw [HME.out, d1]; simp)], (HC.out N).trans (Chg.drewN _ _ _)⟩
    · have hme : meetsB p q = true := by rw [HME.out]; simp [t1 (by omega), t2 (by omega), t3 (by omega)]
      have HMT : Hid (meetsB p q = true) := hme
      have hcw := HC.out N
      clear t1 t2 t3 hme HN HME HC
      cases ko
      · go_wp2
        go_ret
        exact ⟨by rw [cond, HMT.out]; rfl, hcw⟩
      · have bx : -255 ≤ p.h0 - p.l0 ∧ p.h0 - p.l0 ≤ 255 := by have := hp.h0; have := hp.l0; unfold Sm at *; omega
        have by' : -255 ≤ p.h1 - p.l1 ∧ p.h1 - p.l1 ≤ 255 := by have := hp.h1; have := hp.l1; unfold Sm at *; omega
        have bz : -255 ≤ p.h2 - p.l2 ∧ p.h2 - p.l2 ≤ 255 := by have := hp.h2; have := hp.l2; unfold Sm at *; omega
        cases turn
        · go_upto_region 10 with fail
          obtain ⟨hre, hrf, hcx⟩ := condW w (Obj.cells (cells6 p) 33) (Obj.cells (cells6 q) 33) (Obj.cells (arr3 r0 r1 r2) 31) (Obj.cells #[Value.int IntKind.i64 (p.h0 - p.l0), Value.int IntKind.i64 (p.h1 - p.l1), Value.int IntKind.i64 (p.h2 - p.l2)] 31) N
          have HFI : Hid (fits p r0 r1 r2 false = (decide (r0 ≤ p.h0 - p.l0) && decide (r1 ≤ p.h1 - p.l1) && decide (r2 ≤ p.h2 - p.l2))) := rfl
          generalize ((((w.alloc (Obj.cells (cells6 p) 33)).alloc (Obj.cells (cells6 q) 33)).alloc (Obj.cells (arr3 r0 r1 r2) 31)).drewN N).alloc (Obj.cells #[Value.int IntKind.i64 (p.h0 - p.l0), Value.int IntKind.i64 (p.h1 - p.l1), Value.int IntKind.i64 (p.h2 - p.l2)] 31) = wx at *
          generalize w.heap.size + 1 + 1 + 1 = eb at *
          generalize w.heap.size + 1 + 1 = fb at *
          generalize p.h0 - p.l0 = s0 at *
          generalize p.h1 - p.l1 = s1 at *
          generalize p.h2 - p.l2 = s2 at *
          have HCX : Hid (Chg (fun _ => False) w wx) := hcx
          clear hcx hcw
          have k0 : wx.cell? ⟨eb, 0, none⟩ = some (.int .i64 s0) := by rw [cell_of_row _ _ _ _ _ _ hre]; rfl
          have k1 : wx.cell? ⟨eb, 1, none⟩ = some (.int .i64 s1) := by rw [cell_of_row _ _ _ _ _ _ hre]; rfl
          have k2 : wx.cell? ⟨eb, 2, none⟩ = some (.int .i64 s2) := by rw [cell_of_row _ _ _ _ _ _ hre]; rfl
          have g0 : wx.cell? ⟨fb, 0, none⟩ = some (.int .i64 r0) := by rw [cell_of_row _ _ _ _ _ _ hrf]; rfl
          have g1 : wx.cell? ⟨fb, 1, none⟩ = some (.int .i64 r1) := by rw [cell_of_row _ _ _ _ _ _ hrf]; rfl
          have g2 : wx.cell? ⟨fb, 2, none⟩ = some (.int .i64 r2) := by rw [cell_of_row _ _ _ _ _ _ hrf]; rfl
          clear hre hrf
          go_wp2
          go_loopg [13] 3 (fun gk i wr => ∃ t M : Nat, gk + t = 3 ∧ i = .int .i64 t ∧ wr = wx.drewN M ∧ (1 ≤ t → r0 ≤ s0) ∧ (2 ≤ t → r1 ≤ s1) ∧ (3 ≤ t → r2 ≤ s2))
          case atStart => exact ⟨0, 0, rfl, rfl, rfl, fun h => by omega, fun h => by omega, fun h => by omega⟩
          case round =>
            obtain ⟨t, M, hgt, rfl, rfl, t1, t2, t3⟩ := hrel
            have ht : t = 0 ∨ t = 1 ∨ t = 2 ∨ t = 3 := by omega
            rcases ht with rfl | rfl | rfl | rfl
            · clear t1 t2 t3
              by_cases h1 : s0 < r0
              · have HF : Hid (fits p r0 r1 r2 false = false) := by rw [Hid, HFI.out, show decide (r0 ≤ s0) = false by simpa using h1]; simp
                go_wp2
                go_quiet (fail)
                go_wp2
                go_ret
                exact ⟨by show Ending.returned (Value.bool false) = _; rw [cond, HMT.out, HF.out]; rfl, (HCX.out.trans (Chg.drewN _ _ _)).trans (Chg.drewN _ _ _)⟩
              · have d1 : decide (s0 < r0) = false := by simpa using h1
                go_wp2
                go_quiet (fail)
                go_wp2
                go_roundg 2
                case measure => omega
                case rel => exact ⟨1, M + nq, rfl, by go_num, rfl, fun _ => by omega, fun h => by omega, fun h => by omega⟩
            · have t1' : 1 ≤ 2 → r0 ≤ s0 := fun _ => t1 (by omega)
              clear t1 t2 t3
              by_cases h1 : s1 < r1
              · have HF : Hid (fits p r0 r1 r2 false = false) := by rw [Hid, HFI.out, show decide (r1 ≤ s1) = false by simpa using h1]; simp
                go_wp2
                go_quiet (fail)
                go_wp2
                go_ret
                exact ⟨by show Ending.returned (Value.bool false) = _; rw [cond, HMT.out, HF.out]; rfl, (HCX.out.trans (Chg.drewN _ _ _)).trans (Chg.drewN _ _ _)⟩
              · have d1 : decide (s1 < r1) = false := by simpa using h1
                go_wp2
                go_quiet (fail)
                go_wp2
                go_roundg 1
                case measure => omega
                case rel => exact ⟨2, M + nq, rfl, by go_num, rfl, t1', fun _ => by omega, fun h => by omega⟩
            · have t1' : 1 ≤ 3 → r0 ≤ s0 := fun _ => t1 (by omega)
              have t2' : 2 ≤ 3 → r1 ≤ s1 := fun _ => t2 (by omega)
              clear t1 t2 t3
              by_cases h1 : s2 < r2
              · have HF : Hid (fits p r0 r1 r2 false = false) := by rw [Hid, HFI.out, show decide (r2 ≤ s2) = false by simpa using h1]; simp
                go_wp2
                go_quiet (fail)
                go_wp2
                go_ret
                exact ⟨by show Ending.returned (Value.bool false) = _; rw [cond, HMT.out, HF.out]; rfl, (HCX.out.trans (Chg.drewN _ _ _)).trans (Chg.drewN _ _ _)⟩
              · have d1 : decide (s2 < r2) = false := by simpa using h1
                go_wp2
                go_quiet (fail)
                go_wp2
                go_roundg 0
                case measure => omega
                case rel => exact ⟨3, M + nq, rfl, by go_num, rfl, t1', t2', fun _ => by omega⟩
            · have HF : Hid (fits p r0 r1 r2 false = true) := by rw [Hid, HFI.out]; simp [t1 (by omega), t2 (by omega), t3 (by omega)]
              clear t1 t2 t3
              go_wp2
              go_ret
              exact ⟨by show Ending.returned (Value.bool true) = _; rw [cond, HMT.out, HF.out]; rfl, HCX.out.trans (Chg.drewN _ _ _)⟩

        · go_wp2_with fail
          obtain ⟨hre, hrf, hcx⟩ := condW w (Obj.cells (cells6 p) 33) (Obj.cells (cells6 q) 33) (Obj.cells (arr3 r0 r1 r2) 31) (Obj.cells #[Value.int IntKind.i64 (p.h0 - p.l0), Value.int IntKind.i64 (p.h1 - p.l1), Value.int IntKind.i64 (p.h2 - p.l2)] 31) N
          have HFI : Hid (fits p r0 r1 r2 true = (decide (r0 ≤ mn3 (p.h0 - p.l0) (p.h1 - p.l1) (p.h2 - p.l2)) && decide (r1 ≤ (p.h0 - p.l0) + (p.h1 - p.l1) + (p.h2 - p.l2) - mn3 (p.h0 - p.l0) (p.h1 - p.l1) (p.h2 - p.l2) - mx3 (p.h0 - p.l0) (p.h1 - p.l1) (p.h2 - p.l2)) && decide (r2 ≤ mx3 (p.h0 - p.l0) (p.h1 - p.l1) (p.h2 - p.l2)))) := rfl
          generalize ((((w.alloc (Obj.cells (cells6 p) 33)).alloc (Obj.cells (cells6 q) 33)).alloc (Obj.cells (arr3 r0 r1 r2) 31)).drewN N).alloc (Obj.cells #[Value.int IntKind.i64 (p.h0 - p.l0), Value.int IntKind.i64 (p.h1 - p.l1), Value.int IntKind.i64 (p.h2 - p.l2)] 31) = w1 at *
          have hne : w.heap.size + 1 + 1 ≠ w.heap.size + 1 + 1 + 1 := by omega
          have hge : w.heap.size ≤ w.heap.size + 1 + 1 + 1 := by omega
          have hH : Sort.Holds (Value.int .i64) w1 (w.heap.size + 1 + 1 + 1) 0 [p.h0 - p.l0, p.h1 - p.l1, p.h2 - p.l2].toArray := holds_of_blockI hre rfl
          refine Calls.mono (Yba.slices_Sort_int (w.heap.size + 1 + 1 + 1) 0 3 [p.h0 - p.l0, p.h1 - p.l1, p.h2 - p.l2] w1 hH (lt_of_block hre) (by simp)) ?_
          rintro e wx ⟨rfl, n, os, hwx⟩
          rw [sort3] at hwx
          have hre2 := heap_sortedI (n := n) (os := os) #[mn3 (p.h0 - p.l0) (p.h1 - p.l1) (p.h2 - p.l2), (p.h0 - p.l0) + (p.h1 - p.l1) + (p.h2 - p.l2) - mn3 (p.h0 - p.l0) (p.h1 - p.l1) (p.h2 - p.l2) - mx3 (p.h0 - p.l0) (p.h1 - p.l1) (p.h2 - p.l2), mx3 (p.h0 - p.l0) (p.h1 - p.l1) (p.h2 - p.l2)] hre
          have hc2 : Chg (fun i => i = w.heap.size + 1 + 1 + 1) w1 wx := by rw [hwx]; exact Chg.grown (grownBy_sortedI _) (fun k hk => by simpa using hk.symm)
          have hre3 : wx.heap[w.heap.size + 1 + 1 + 1]? = some (.cells (arr3 (mn3 (p.h0 - p.l0) (p.h1 - p.l1) (p.h2 - p.l2)) ((p.h0 - p.l0) + (p.h1 - p.l1) + (p.h2 - p.l2) - mn3 (p.h0 - p.l0) (p.h1 - p.l1) (p.h2 - p.l2) - mx3 (p.h0 - p.l0) (p.h1 - p.l1) (p.h2 - p.l2)) (mx3 (p.h0 - p.l0) (p.h1 - p.l1) (p.h2 - p.l2))) 31 (0, 0)) := by rw [hwx]; exact hre2
          have hrf3 := hc2.at hrf hne
          have HCX : Hid (Chg (fun _ => False) w wx) := hcx.then hc2 (fun i hi => Or.inr (by omega))
          clear hwx hre2 hc2 hre hrf hcx hcw hH hne hge
          have hre := hre3
          have hrf := hrf3
          clear hre3 hrf3
          generalize (p.h0 - p.l0) + (p.h1 - p.l1) + (p.h2 - p.l2) - mn3 (p.h0 - p.l0) (p.h1 - p.l1) (p.h2 - p.l2) - mx3 (p.h0 - p.l0) (p.h1 - p.l1) (p.h2 - p.l2) = s1 at *
          generalize mn3 (p.h0 - p.l0) (p.h1 - p.l1) (p.h2 - p.l2) = s0 at *
          generalize mx3 (p.h0 - p.l0) (p.h1 - p.l1) (p.h2 - p.l2) = s2 at *
          generalize w.heap.size + 1 + 1 + 1 = eb at *
          generalize w.heap.size + 1 + 1 = fb at *
          have k0 : wx.cell? ⟨eb, 0, none⟩ = some (.int .i64 s0) := by rw [cell_of_row _ _ _ _ _ _ hre]; rfl
          have k1 : wx.cell? ⟨eb, 1, none⟩ = some (.int .i64 s1) := by rw [cell_of_row _ _ _ _ _ _ hre]; rfl
          have k2 : wx.cell? ⟨eb, 2, none⟩ = some (.int .i64 s2) := by rw [cell_of_row _ _ _ _ _ _ hre]; rfl
          have g0 : wx.cell? ⟨fb, 0, none⟩ = some (.int .i64 r0) := by rw [cell_of_row _ _ _ _ _ _ hrf]; rfl
          have g1 : wx.cell? ⟨fb, 1, none⟩ = some (.int .i64 r1) := by rw [cell_of_row _ _ _ _ _ _ hrf]; rfl
          have g2 : wx.cell? ⟨fb, 2, none⟩ = some (.int .i64 r2) := by rw [cell_of_row _ _ _ _ _ _ hrf]; rfl
          clear hre hrf
          go_wp2
          go_loopg [13] 3 (fun gk i wr => ∃ t M : Nat, gk + t = 3 ∧ i = .int .i64 t ∧ wr = wx.drewN M ∧ (1 ≤ t → r0 ≤ s0) ∧ (2 ≤ t → r1 ≤ s1) ∧ (3 ≤ t → r2 ≤ s2))
          case atStart => exact ⟨0, 0, rfl, rfl, rfl, fun h => by omega, fun h => by omega, fun h => by omega⟩
          case round =>
            obtain ⟨t, M, hgt, rfl, rfl, t1, t2, t3⟩ := hrel
            have ht : t = 0 ∨ t = 1 ∨ t = 2 ∨ t = 3 := by omega
            rcases ht with rfl | rfl | rfl | rfl
            · clear t1 t2 t3
              by_cases h1 : s0 < r0
              · have HF : Hid (fits p r0 r1 r2 true = false) := by rw [Hid, HFI.out, show decide (r0 ≤ s0) = false by simpa using h1]; simp
                go_wp2
                go_quiet (fail)
                go_wp2
                go_ret
                exact ⟨by show Ending.returned (Value.bool false) = _; rw [cond, HMT.out, HF.out]; rfl, (HCX.out.trans (Chg.drewN _ _ _)).trans (Chg.drewN _ _ _)⟩
              · have d1 : decide (s0 < r0) = false := by simpa using h1
                go_wp2
                go_quiet (fail)
                go_wp2
                go_roundg 2
                case measure => omega
                case rel => exact ⟨1, M + nq, rfl, by go_num, rfl, fun _ => by omega, fun h => by omega, fun h => by omega⟩
            · have t1' : 1 ≤ 2 → r0 ≤ s0 := fun _ => t1 (by omega)
              clear t1 t2 t3
              by_cases h1 : s1 < r1
              · have HF : Hid (fits p r0 r1 r2 true = false) := by rw [Hid, HFI.out, show decide (r1 ≤ s1) = false by simpa using h1]; simp
                go_wp2
                go_quiet (fail)
                go_wp2
                go_ret
                exact ⟨by show Ending.returned (Value.bool false) = _; rw [cond, HMT.out, HF.out]; rfl, (HCX.out.trans (Chg.drewN _ _ _)).trans (Chg.drewN _ _ _)⟩
              · have d1 : decide (s1 < r1) = false := by simpa using h1
                go_wp2
                go_quiet (fail)
                go_wp2
                go_roundg 1
                case measure => omega
                case rel => exact ⟨2, M + nq, rfl, by go_num, rfl, t1', fun _ => by omega, fun h => by omega⟩
            · have t1' : 1 ≤ 3 → r0 ≤ s0 := fun _ => t1 (by omega)
              have t2' : 2 ≤ 3 → r1 ≤ s1 := fun _ => t2 (by omega)
              clear t1 t2 t3
              by_cases h1 : s2 < r2
              · have HF : Hid (fits p r0 r1 r2 true = false) := by rw [Hid, HFI.out, show decide (r2 ≤ s2) = false by simpa using h1]; simp
                go_wp2
                go_quiet (fail)
                go_wp2
                go_ret
                exact ⟨by show Ending.returned (Value.bool false) = _; rw [cond, HMT.out, HF.out]; rfl, (HCX.out.trans (Chg.drewN _ _ _)).trans (Chg.drewN _ _ _)⟩
              · have d1 : decide (s2 < r2) = false := by simpa using h1
                go_wp2
                go_quiet (fail)
                go_wp2
                go_roundg 0
                case measure => omega
                case rel => exact ⟨3, M + nq, rfl, by go_num, rfl, t1', t2', fun _ => by omega⟩
            · have HF : Hid (fits p r0 r1 r2 true = true) := by rw [Hid, HFI.out]; simp [t1 (by omega), t2 (by omega), t3 (by omega)]
              clear t1 t2 t3
              go_wp2
              go_ret
              exact ⟨by show Ending.returned (Value.bool true) = _; rw [cond, HMT.out, HF.out]; rfl, HCX.out.trans (Chg.drewN _ _ _)⟩
end Go.Proofs.Ybulkamqs
