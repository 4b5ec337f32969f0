/-
  OUR OWN. b1916a: 'nodes' (19), 'zzs1916anodes' (13), 'zzs1916acub' (8) and 'holdsExtents' (18), walked.
-/
import Derived.Test.YbulkamqsLeaf
import Derived.Deep.DeepCutAuto
import Derived.Deep.CutBlock
import Derived.Laws.Rows
namespace Go.Proofs.Ybulkamqs
open Go.RowKit
set_option linter.unusedVariables false
set_option linter.unusedSimpArgs false
def ex (lo hi : Int) : Int := if hi - lo < 0 then 0 else hi - lo
theorem ex_in {l h : Int} (a : -128 ≤ l ∧ l ≤ 127) (b : -128 ≤ h ∧ h ≤ 127) : 0 ≤ ex l h ∧ ex l h ≤ 255 := by unfold ex; split <;> omega
theorem mul_in {x y A B : Int} (hx : 0 ≤ x ∧ x ≤ A) (hy : 0 ≤ y ∧ y ≤ B) : 0 ≤ x * y ∧ x * y ≤ A * B :=
  ⟨Int.mul_nonneg hx.1 hy.1, Int.mul_le_mul hx.2 hy.2 hy.1 (Int.le_trans hx.1 hx.2)⟩
def vol (b : Bx) : Int := ex b.l0 b.h0 * ex b.l1 b.h1 * ex b.l2 b.h2
theorem wrap_in {x : Int} (h : 0 ≤ x ∧ x ≤ 16581375) : IntKind.i64.wrap x = x := by rw [IntKind.wrap_i64]; omega

set_option maxRecDepth 20000 in
set_option maxHeartbeats 800000 in
theorem nodes_walk (p : Bx) (hp : p.Ok) (w : World) :
    Calls Yba.prog 19 #[.agg (cells6 p)] w fun e w' => e = .returned (.int .i64 (vol p)) ∧ Chg (fun _ => False) w w' := by
  obtain ⟨l0, l1, l2, h0, h1, h2⟩ := p
  obtain ⟨a0, a1, a2, b0, b1, b2⟩ := hp
  dsimp only [vol, cells6] at *
  unfold Sm at *
  have m1 := ex_in a0 b0
  have m2 := mul_in m1 (ex_in a1 b1)
  have m3 := mul_in m2 (ex_in a2 b2)
  have HM2 : Hid (0 ≤ ex l0 h0 * ex l1 h1 ∧ ex l0 h0 * ex l1 h1 ≤ 255 * 255) := m2
  have HM3 : Hid (0 ≤ ex l0 h0 * ex l1 h1 * ex l2 h2 ∧ ex l0 h0 * ex l1 h1 * ex l2 h2 ≤ 255 * 255 * 255) := m3
  clear m1 m2 m3
  go_enter Yba.func19, Yba.ntmps19
  go_wp2
  go_loopg [3, 5] 3 (fun gk n i wr => ∃ t N : Nat, gk + t = 3 ∧ i = .int .i64 t ∧ wr = (w.alloc (.cells #[.int .i64 l0, .int .i64 l1, .int .i64 l2, .int .i64 h0, .int .i64 h1, .int .i64 h2] 33)).drewN N ∧ ((t = 0 ∧ n = .int .i64 1) ∨ (t = 1 ∧ n = .int .i64 (ex l0 h0)) ∨ (t = 2 ∧ n = .int .i64 (ex l0 h0 * ex l1 h1)) ∨ (t = 3 ∧ n = .int .i64 (ex l0 h0 * ex l1 h1 * ex l2 h2))))
  case atStart => exact ⟨0, 0, rfl, rfl, rfl, Or.inl ⟨rfl, rfl⟩⟩
  case round =>
    obtain ⟨t, N, hgt, rfl, rfl, ht⟩ := hrel
    rcases ht with ⟨rfl, rfl⟩ | ⟨rfl, rfl⟩ | ⟨rfl, rfl⟩ | ⟨rfl, rfl⟩
    · by_cases hn : h0 - l0 < 0
      · have HX : Hid (ex l0 h0 = 0) := by simp [Hid, ex, hn]
        go_wp2
        go_region
        go_wp2
        go_roundg 2
        case measure => omega
        case rel => exact ⟨1, N + 1, rfl, by go_num, rfl, Or.inr (Or.inl ⟨rfl, by rw [HX.out]⟩)⟩
      · have HX : Hid (ex l0 h0 = h0 - l0) := by simp [Hid, ex, hn]
        go_wp2
        go_region
        go_wp2
        go_roundg 2
        case measure => omega
        case rel => exact ⟨1, N + 1, rfl, by go_num, rfl, Or.inr (Or.inl ⟨rfl, by rw [HX.out]⟩)⟩
    · by_cases hn : h1 - l1 < 0
      · have HX : Hid (ex l1 h1 = 0) := by simp [Hid, ex, hn]
        go_wp2
        go_region
        go_wp2
        go_roundg 1
        case measure => omega
        case rel => exact ⟨2, N + 1, rfl, by go_num, rfl, Or.inr (Or.inr (Or.inl ⟨rfl, by rw [HX.out]; simp⟩))⟩
      · have HX : Hid (ex l1 h1 = h1 - l1) := by simp [Hid, ex, hn]
        have W2 : IntKind.i64.wrap (ex l0 h0 * (h1 - l1)) = ex l0 h0 * (h1 - l1) := wrap_in (by have := HM2.out; rw [HX.out] at this; omega)
        go_wp2
        go_region
        go_wp2
        go_roundg 1
        case measure => omega
        case rel => exact ⟨2, N + 1, rfl, by go_num, rfl, Or.inr (Or.inr (Or.inl ⟨rfl, by rw [HX.out]⟩))⟩
    · by_cases hn : h2 - l2 < 0
      · have HX : Hid (ex l2 h2 = 0) := by simp [Hid, ex, hn]
        go_wp2
        go_region
        go_wp2
        go_roundg 0
        case measure => omega
        case rel => exact ⟨3, N + 1, rfl, by go_num, rfl, Or.inr (Or.inr (Or.inr ⟨rfl, by rw [HX.out]; simp⟩))⟩
      · have HX : Hid (ex l2 h2 = h2 - l2) := by simp [Hid, ex, hn]
        have W3 : IntKind.i64.wrap (ex l0 h0 * ex l1 h1 * (h2 - l2)) = ex l0 h0 * ex l1 h1 * (h2 - l2) := wrap_in (by have := HM3.out; rw [HX.out] at this; omega)
        go_wp2
        go_region
        go_wp2
        go_roundg 0
        case measure => omega
        case rel => exact ⟨3, N + 1, rfl, by go_num, rfl, Or.inr (Or.inr (Or.inr ⟨rfl, by rw [HX.out]⟩))⟩
    · go_wp2
      go_ret
      exact ⟨rfl, (Chg.alloc _ _ _).trans (Chg.drewN _ _ _)⟩
set_option maxRecDepth 20000 in
set_option maxHeartbeats 800000 in
theorem anodes_walk (p : Bx) (hp : p.Ok) (w : World) :
    Calls Yba.prog 13 #[.agg (cells6 p)] w fun e w' => e = .returned (.int .i64 (vol p)) ∧ Chg (fun _ => False) w w' := by
  obtain ⟨l0, l1, l2, h0, h1, h2⟩ := p
  obtain ⟨a0, a1, a2, b0, b1, b2⟩ := hp
  dsimp only [vol, cells6] at *
  unfold Sm at *
  have m1 := ex_in a0 b0
  have m2 := mul_in m1 (ex_in a1 b1)
  have m3 := mul_in m2 (ex_in a2 b2)
  have HM2 : Hid (0 ≤ ex l0 h0 * ex l1 h1 ∧ ex l0 h0 * ex l1 h1 ≤ 255 * 255) := m2
  have HM3 : Hid (0 ≤ ex l0 h0 * ex l1 h1 * ex l2 h2 ∧ ex l0 h0 * ex l1 h1 * ex l2 h2 ≤ 255 * 255 * 255) := m3
  clear m1 m2 m3
  go_enter Yba.func13, Yba.ntmps13
  go_wp2
  go_loopg [3, 4] 3 (fun gk n i wr => ∃ t N : Nat, gk + t = 3 ∧ i = .int .i64 t ∧ wr = (w.alloc (.cells #[.int .i64 l0, .int .i64 l1, .int .i64 l2, .int .i64 h0, .int .i64 h1, .int .i64 h2] 33)).drewN N ∧ ((t = 0 ∧ n = .int .i64 1) ∨ (t = 1 ∧ n = .int .i64 (ex l0 h0)) ∨ (t = 2 ∧ n = .int .i64 (ex l0 h0 * ex l1 h1)) ∨ (t = 3 ∧ n = .int .i64 (ex l0 h0 * ex l1 h1 * ex l2 h2))))
  case atStart => exact ⟨0, 0, rfl, rfl, rfl, Or.inl ⟨rfl, rfl⟩⟩
  case round =>
    obtain ⟨t, N, hgt, rfl, rfl, ht⟩ := hrel
    rcases ht with ⟨rfl, rfl⟩ | ⟨rfl, rfl⟩ | ⟨rfl, rfl⟩ | ⟨rfl, rfl⟩
    · by_cases hn : h0 - l0 < 0
      · have HX : Hid (ex l0 h0 = 0) := by simp [Hid, ex, hn]
        go_wp2
        go_quiet (fail)
        go_wp2
        go_roundg 2
        case measure => omega
        case rel => exact ⟨1, N + nq, rfl, by go_num, rfl, Or.inr (Or.inl ⟨rfl, by rw [HX.out]⟩)⟩
      · have HX : Hid (ex l0 h0 = h0 - l0) := by simp [Hid, ex, hn]
        go_wp2
        go_quiet (fail)
        go_wp2
        go_roundg 2
        case measure => omega
        case rel => exact ⟨1, N + nq, rfl, by go_num, rfl, Or.inr (Or.inl ⟨rfl, by rw [HX.out]⟩)⟩
    · by_cases hn : h1 - l1 < 0
      · have HX : Hid (ex l1 h1 = 0) := by simp [Hid, ex, hn]
        go_wp2
        go_quiet (fail)
        go_wp2
        go_roundg 1
        case measure => omega
        case rel => exact ⟨2, N + nq, rfl, by go_num, rfl, Or.inr (Or.inr (Or.inl ⟨rfl, by rw [HX.out]; simp⟩))⟩
      · have HX : Hid (ex l1 h1 = h1 - l1) := by simp [Hid, ex, hn]
        have W2 : IntKind.i64.wrap (ex l0 h0 * (h1 - l1)) = ex l0 h0 * (h1 - l1) := wrap_in (by have := HM2.out; rw [HX.out] at this; omega)
        go_wp2
        go_quiet (fail)
        go_wp2
        go_roundg 1
        case measure => omega
        case rel => exact ⟨2, N + nq, rfl, by go_num, rfl, Or.inr (Or.inr (Or.inl ⟨rfl, by rw [HX.out]⟩))⟩
    · by_cases hn : h2 - l2 < 0
      · have HX : Hid (ex l2 h2 = 0) := by simp [Hid, ex, hn]
        go_wp2
        go_quiet (fail)
        go_wp2
        go_roundg 0
        case measure => omega
        case rel => exact ⟨3, N + nq, rfl, by go_num, rfl, Or.inr (Or.inr (Or.inr ⟨rfl, by rw [HX.out]; simp⟩))⟩
      · have HX : Hid (ex l2 h2 = h2 - l2) := by simp [Hid, ex, hn]
        have W3 : IntKind.i64.wrap (ex l0 h0 * ex l1 h1 * (h2 - l2)) = ex l0 h0 * ex l1 h1 * (h2 - l2) := wrap_in (by have := HM3.out; rw [HX.out] at this; omega)
        go_wp2
        go_quiet (fail)
        go_wp2
        go_roundg 0
        case measure => omega
        case rel => exact ⟨3, N + nq, rfl, by go_num, rfl, Or.inr (Or.inr (Or.inr ⟨rfl, by rw [HX.out]⟩))⟩
    · go_wp2
      go_ret
      exact ⟨rfl, (Chg.alloc _ _ _).trans (Chg.drewN _ _ _)⟩
abbrev cells8 (b : Bx) : Array Value := #[.int .i8 b.l0, .int .i8 b.l1, .int .i8 b.l2, .int .i8 b.h0, .int .i8 b.h1, .int .i8 b.h2]
abbrev z33 : Obj := .cells #[.int .i64 0, .int .i64 0, .int .i64 0, .int .i64 0, .int .i64 0, .int .i64 0] 33
set_option maxRecDepth 20000 in
set_option maxHeartbeats 800000 in
theorem cub_walk (p : Bx) (hp : p.Ok) (w : World) :
    Calls Yba.prog 8 #[.agg (cells8 p)] w fun e w' => e = .returned (.agg (cells6 p)) ∧ Chg (fun _ => False) w w' := by
  obtain ⟨l0, l1, l2, h0, h1, h2⟩ := p
  obtain ⟨a0, a1, a2, b0, b1, b2⟩ := hp
  dsimp only [cells8, cells6] at *
  unfold Sm at *
  go_enter Yba.func8, Yba.ntmps8
  go_wp2
  go_loopg [4] 3 (fun gk i wr => ∃ t : Nat, gk + t = 3 ∧ i = .int .i64 t ∧ ∃ c : Array Value, wr = ((w.alloc (.cells #[.int .i8 l0, .int .i8 l1, .int .i8 l2, .int .i8 h0, .int .i8 h1, .int .i8 h2] 25)).alloc z33).alloc (.cells c 33) ∧
    ((t = 0 ∧ c = #[.int .i64 0, .int .i64 0, .int .i64 0, .int .i64 0, .int .i64 0, .int .i64 0]) ∨ (t = 1 ∧ c = #[.int .i64 l0, .int .i64 0, .int .i64 0, .int .i64 h0, .int .i64 0, .int .i64 0]) ∨
     (t = 2 ∧ c = #[.int .i64 l0, .int .i64 l1, .int .i64 0, .int .i64 h0, .int .i64 h1, .int .i64 0]) ∨ (t = 3 ∧ c = #[.int .i64 l0, .int .i64 l1, .int .i64 l2, .int .i64 h0, .int .i64 h1, .int .i64 h2])))
  case atStart => exact ⟨0, rfl, rfl, _, rfl, Or.inl ⟨rfl, rfl⟩⟩
  case round =>
    obtain ⟨t, hgt, rfl, c, rfl, ht⟩ := hrel
    rcases ht with ⟨rfl, rfl⟩ | ⟨rfl, rfl⟩ | ⟨rfl, rfl⟩ | ⟨rfl, rfl⟩
    · go_wp2
      go_roundg 2
      case measure => omega
      case rel => exact ⟨1, rfl, by go_num, _, rfl, Or.inr (Or.inl ⟨rfl, rfl⟩)⟩
    · go_wp2
      go_roundg 1
      case measure => omega
      case rel => exact ⟨2, rfl, by go_num, _, rfl, Or.inr (Or.inr (Or.inl ⟨rfl, rfl⟩))⟩
    · go_wp2
      go_roundg 0
      case measure => omega
      case rel => exact ⟨3, rfl, by go_num, _, rfl, Or.inr (Or.inr (Or.inr ⟨rfl, rfl⟩))⟩
    · go_wp2
      refine bodyPost_ret (results_cell_row rfl _ _ (w.heap.size + 1) 33 _ _ _ rfl ((Chg.alloc (fun _ => False) _ _).at (alloc_new2 _ _ _) (fun h => h)) Yba.underlying33 rfl (by kernel_rfl)) rfl ?_
      exact ⟨rfl, ((Chg.alloc _ _ _).trans (Chg.alloc _ _ _)).trans (Chg.alloc _ _ _)⟩

def e0 (p : Bx) (turn : Bool) : Int := if turn then mn3 (p.h0 - p.l0) (p.h1 - p.l1) (p.h2 - p.l2) else p.h0 - p.l0
def e1 (p : Bx) (turn : Bool) : Int := if turn then (p.h0 - p.l0) + (p.h1 - p.l1) + (p.h2 - p.l2) - mn3 (p.h0 - p.l0) (p.h1 - p.l1) (p.h2 - p.l2) - mx3 (p.h0 - p.l0) (p.h1 - p.l1) (p.h2 - p.l2) else p.h1 - p.l1
def e2 (p : Bx) (turn : Bool) : Int := if turn then mx3 (p.h0 - p.l0) (p.h1 - p.l1) (p.h2 - p.l2) else p.h2 - p.l2
def fits (p : Bx) (r0 r1 r2 : Int) (turn : Bool) : Bool := decide (r0 ≤ e0 p turn) && decide (r1 ≤ e1 p turn) && decide (r2 ≤ e2 p turn)

set_option maxRecDepth 20000 in
set_option maxHeartbeats 800000 in
theorem holds_walk (pb : Nat) (p : Bx) (hp : p.Ok) (r0 r1 r2 : Int) (turn : Bool) (w : World) (hrow : w.heap[pb]? = some (.cells (cells6 p) 33 (0, 0))) :
    Calls Yba.prog 18 #[.pointer (some ⟨pb, 0, none⟩), .agg (arr3 r0 r1 r2), .bool turn] w fun e w' => e = .returned (.bool (fits p r0 r1 r2 turn)) ∧ Chg (fun _ => False) w w' := by
  have q0 : w.cell? ⟨pb, 0, none⟩ = some (.int .i64 p.l0) := by rw [cell_of_row _ _ _ _ _ _ hrow]; rfl
  have q1 : w.cell? ⟨pb, 1, none⟩ = some (.int .i64 p.l1) := by rw [cell_of_row _ _ _ _ _ _ hrow]; rfl
  have q2 : w.cell? ⟨pb, 2, none⟩ = some (.int .i64 p.l2) := by rw [cell_of_row _ _ _ _ _ _ hrow]; rfl
  have q3 : w.cell? ⟨pb, 3, none⟩ = some (.int .i64 p.h0) := by rw [cell_of_row _ _ _ _ _ _ hrow]; rfl
  have q4 : w.cell? ⟨pb, 4, none⟩ = some (.int .i64 p.h1) := by rw [cell_of_row _ _ _ _ _ _ hrow]; rfl
  have q5 : w.cell? ⟨pb, 5, none⟩ = some (.int .i64 p.h2) := by rw [cell_of_row _ _ _ _ _ _ hrow]; rfl
  have hpb : pb < w.heap.size := lt_of_block hrow
  have bx : -255 ≤ p.h0 - p.l0 ∧ p.h0 - p.l0 ≤ 255 := by have := hp.h0; have := hp.l0; unfold Sm at *; omega
  have by' : -255 ≤ p.h1 - p.l1 ∧ p.h1 - p.l1 ≤ 255 := by have := hp.h1; have := hp.l1; unfold Sm at *; omega
  have bz : -255 ≤ p.h2 - p.l2 ∧ p.h2 - p.l2 ≤ 255 := by have := hp.h2; have := hp.l2; unfold Sm at *; omega
  go_enter Yba.func18, Yba.ntmps18
  go_wp2_with fail
  refine Calls.mono (extents_walk p hp _) ?_
  rintro e w2 ⟨rfl, hc2⟩
  have hr2 := hc2.at (heap_alloc_new w (.cells (arr3 r0 r1 r2) 31)) (fun h => h)
  have hs2 : w.heap.size < w2.heap.size := lt_of_block hr2
  have g0 : w2.cell? ⟨w.heap.size, 0, none⟩ = some (.int .i64 r0) := by rw [cell_of_row _ _ _ _ _ _ hr2]; rfl
  have g1 : w2.cell? ⟨w.heap.size, 1, none⟩ = some (.int .i64 r1) := by rw [cell_of_row _ _ _ _ _ _ hr2]; rfl
  have g2 : w2.cell? ⟨w.heap.size, 2, none⟩ = some (.int .i64 r2) := by rw [cell_of_row _ _ _ _ _ _ hr2]; rfl
  have ch2 : Chg (fun _ => False) w w2 := (Chg.alloc _ _ _).trans hc2
  clear q0 q1 q2 q3 q4 q5 hc2
  cases turn
  · have HF : Hid (fits p r0 r1 r2 false = (decide (r0 ≤ p.h0 - p.l0) && decide (r1 ≤ p.h1 - p.l1) && decide (r2 ≤ p.h2 - p.l2))) := rfl
    generalize p.h0 - p.l0 = x at *
    generalize p.h1 - p.l1 = y at *
    generalize p.h2 - p.l2 = z at *
    go_wp2
    all_goals
      go_ret
      refine ⟨?_, ch2.trans (Chg.alloc _ _ _)⟩
      rw [HF.out]
      simp [*]
      try omega
  · have HF : Hid (fits p r0 r1 r2 true = (decide (r0 ≤ mn3 (p.h0 - p.l0) (p.h1 - p.l1) (p.h2 - p.l2)) && decide (r1 ≤ (p.h0 - p.l0) + (p.h1 - p.l1) + (p.h2 - p.l2) - mn3 (p.h0 - p.l0) (p.h1 - p.l1) (p.h2 - p.l2) - mx3 (p.h0 - p.l0) (p.h1 - p.l1) (p.h2 - p.l2)) && decide (r2 ≤ mx3 (p.h0 - p.l0) (p.h1 - p.l1) (p.h2 - p.l2)))) := rfl
    have hso := fun W => sorted_walk (p.h0 - p.l0) (p.h1 - p.l1) (p.h2 - p.l2) bx by' bz W
    generalize p.h0 - p.l0 = x at *
    generalize p.h1 - p.l1 = y at *
    generalize p.h2 - p.l2 = z at *
    go_wp2_with fail
    refine Calls.mono (hso _) ?_
    rintro e w3 ⟨rfl, hc3⟩
    have hr3 := hc3.at (heap_alloc_new w2 (.cells #[.int .i64 x, .int .i64 y, .int .i64 z] 31)) (fun h => h)
    have hg3 := hc3.at ((Chg.alloc (fun _ => False) w2 (.cells #[.int .i64 x, .int .i64 y, .int .i64 z] 31)).at hr2 (fun h => h)) (fun h => h)
    have k0 : w3.cell? ⟨w.heap.size, 0, none⟩ = some (.int .i64 r0) := by rw [cell_of_row _ _ _ _ _ _ hg3]; rfl
    have k1 : w3.cell? ⟨w.heap.size, 1, none⟩ = some (.int .i64 r1) := by rw [cell_of_row _ _ _ _ _ _ hg3]; rfl
    have k2 : w3.cell? ⟨w.heap.size, 2, none⟩ = some (.int .i64 r2) := by rw [cell_of_row _ _ _ _ _ _ hg3]; rfl
    have t0 : w3.cell? ⟨w2.heap.size, 0, none⟩ = some (.int .i64 x) := by rw [cell_of_row _ _ _ _ _ _ hr3]; rfl
    have t1 : w3.cell? ⟨w2.heap.size, 1, none⟩ = some (.int .i64 y) := by rw [cell_of_row _ _ _ _ _ _ hr3]; rfl
    have t2 : w3.cell? ⟨w2.heap.size, 2, none⟩ = some (.int .i64 z) := by rw [cell_of_row _ _ _ _ _ _ hr3]; rfl
    have fz : ∀ o, w3.frozen? ⟨w2.heap.size, o, none⟩ = false := fun o => frozen_of_row _ _ _ _ _ hr3
    have hne : w.heap.size ≠ w2.heap.size := by omega
    have ch3 : Chg (fun _ => False) w w3 := (ch2.trans (Chg.alloc _ _ _)).trans hc3
    have hsz := hs2
    generalize mn3 x y z = m at *
    generalize mx3 x y z = M at *
    generalize x + y + z - m - M = mid at *
    clear hso g0 g1 g2 hc3
    go_wp2
    all_goals
      go_ret
      refine ⟨?_, ch3.then (((Chg.setCell (fun i => i = w2.heap.size) _ _ _ rfl).trans (Chg.setCell (fun i => i = w2.heap.size) _ _ _ rfl)).trans (Chg.setCell (fun i => i = w2.heap.size) _ _ _ rfl)) (fun i hi => Or.inr (by omega))⟩
      rw [HF.out]
      simp [*]
      try omega
end Go.Proofs.Ybulkamqs
