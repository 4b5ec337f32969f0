/-
  OUR OWN. b1916a: 'meets' (17), 'extents' (31) and 'sorted' (32), walked; the sign of a bitwise and.
-/
import Derived.Test.YbulkamqsBase
import Derived.Test.YbulkamqsChecked
import Derived.Below
import Derived.BigRegion
import Derived.Laws.Rows
namespace Go.Proofs.Ybulkamqs
open Go.RowKit
set_option linter.unusedVariables false
set_option linter.unusedSimpArgs false
def In64 (x : Int) : Prop := -9223372036854775808 ≤ x ∧ x ≤ 9223372036854775807
theorem and_neg {x y : Int} (hx : In64 x) (hy : In64 y) : In64 (bits .and .i64 x y) ∧ (bits .and .i64 x y < 0 ↔ x < 0 ∧ y < 0) := by
  obtain ⟨x1, x2⟩ := hx
  obtain ⟨y1, y2⟩ := hy
  have ma : (BitVec.ofInt 64 x).msb = decide (x < 0) := by
    rw [BitVec.msb_eq_decide, BitVec.toNat_ofInt]
    apply decide_eq_decide.2
    constructor <;> intro h <;> omega
  have mb : (BitVec.ofInt 64 y).msb = decide (y < 0) := by
    rw [BitVec.msb_eq_decide, BitVec.toNat_ofInt]
    apply decide_eq_decide.2
    constructor <;> intro h <;> omega
  have mm : (BitVec.ofInt 64 x &&& BitVec.ofInt 64 y).msb = (decide (x < 0) && decide (y < 0)) := by rw [BitVec.msb_and, ma, mb]
  rw [BitVec.msb_eq_decide] at mm
  have hlt := (BitVec.ofInt 64 x &&& BitVec.ofInt 64 y).isLt
  have e : bits .and .i64 x y = IntKind.i64.wrap ((BitVec.ofInt 64 x &&& BitVec.ofInt 64 y).toNat : Int) := rfl
  rw [e, IntKind.wrap_i64]
  generalize (BitVec.ofInt 64 x &&& BitVec.ofInt 64 y).toNat = n at *
  unfold In64
  have : (9223372036854775808 ≤ n) ↔ (x < 0 ∧ y < 0) := by
    have h := mm
    by_cases h1 : x < 0 <;> by_cases h2 : y < 0 <;> simp [h1, h2] at h ⊢ <;> omega
  constructor
  · omega
  · omega

/-- A box of small numbers. -/
structure Bx where
  l0 : Int
  l1 : Int
  l2 : Int
  h0 : Int
  h1 : Int
  h2 : Int
def Sm (x : Int) : Prop := -128 ≤ x ∧ x ≤ 127
structure Bx.Ok (b : Bx) : Prop where
  l0 : Sm b.l0
  l1 : Sm b.l1
  l2 : Sm b.l2
  h0 : Sm b.h0
  h1 : Sm b.h1
  h2 : Sm b.h2
abbrev cells6 (b : Bx) : Array Value := #[.int .i64 b.l0, .int .i64 b.l1, .int .i64 b.l2, .int .i64 b.h0, .int .i64 b.h1, .int .i64 b.h2]
abbrev arr3 (a b c : Int) : Array Value := #[.int .i64 a, .int .i64 b, .int .i64 c]
theorem alloc_new2 (w : World) (A B : Obj) : ((w.alloc A).alloc B).heap[w.heap.size + 1]? = some B := by
  have := heap_alloc_new (w.alloc A) B
  rwa [World.size_alloc] at this
def meetsB (p q : Bx) : Bool := decide (p.l0 < q.h0) && decide (q.l0 < p.h0) && decide (p.l1 < q.h1) && decide (q.l1 < p.h1) && decide (p.l2 < q.h2) && decide (q.l2 < p.h2)

theorem sub_in {x y : Int} (hx : Sm x) (hy : Sm y) : In64 (x - y) := by unfold Sm In64 at *; omega

set_option maxRecDepth 20000 in
set_option maxHeartbeats 800000 in
theorem meets_walk (p q : Bx) (hp : p.Ok) (hq : q.Ok) (w : World) :
    Calls Yba.prog 17 #[.agg (cells6 p), .agg (cells6 q)] w fun e w' => e = .returned (.bool (meetsB p q)) ∧ Chg (fun _ => False) w w' := by
  obtain ⟨a, b, c, d, e, f⟩ := p
  obtain ⟨a', b', c', d', e', f'⟩ := q
  obtain ⟨p1, p2, p3, p4, p5, p6⟩ := hp
  obtain ⟨q1, q2, q3, q4, q5, q6⟩ := hq
  dsimp only at *
  have HP : Hid (meetsB ⟨a, b, c, d, e, f⟩ ⟨a', b', c', d', e', f'⟩ = decide (bits .and .i64 (bits .and .i64 (bits .and .i64 (bits .and .i64 (bits .and .i64 (a - d') (a' - d)) (b - e')) (b' - e)) (c - f')) (c' - f) < 0)) := by
    obtain ⟨i1, e1⟩ := and_neg (sub_in p1 q4) (sub_in q1 p4)
    obtain ⟨i2, e2⟩ := and_neg i1 (sub_in p2 q5)
    obtain ⟨i3, e3⟩ := and_neg i2 (sub_in q2 p5)
    obtain ⟨i4, e4⟩ := and_neg i3 (sub_in p3 q6)
    obtain ⟨i5, e5⟩ := and_neg i4 (sub_in q3 p6)
    unfold Hid
    unfold meetsB
    rw [Bool.eq_iff_iff]
    simp only [Bool.and_eq_true, decide_eq_true_iff]
    rw [e5, e4, e3, e2, e1]
    constructor
    · rintro ⟨⟨⟨⟨⟨h1, h2⟩, h3⟩, h4⟩, h5⟩, h6⟩
      exact ⟨⟨⟨⟨⟨by omega, by omega⟩, by omega⟩, by omega⟩, by omega⟩, by omega⟩
    · rintro ⟨⟨⟨⟨⟨h1, h2⟩, h3⟩, h4⟩, h5⟩, h6⟩
      exact ⟨⟨⟨⟨⟨by omega, by omega⟩, by omega⟩, by omega⟩, by omega⟩, by omega⟩
  unfold Sm at *
  go_enter Yba.func17, Yba.ntmps17
  go_wp2
  go_ret
  refine ⟨?_, (Chg.alloc _ _ _).trans (Chg.alloc _ _ _)⟩
  rw [HP.out]
  rfl

set_option maxRecDepth 20000 in
set_option maxHeartbeats 800000 in
theorem extents_walk (p : Bx) (hp : p.Ok) (w : World) :
    Calls Yba.prog 31 #[.agg (cells6 p)] w fun e w' => e = .returned (.agg (arr3 (p.h0 - p.l0) (p.h1 - p.l1) (p.h2 - p.l2))) ∧ Chg (fun _ => False) w w' := by
  obtain ⟨a, b, c, d, e, f⟩ := p
  obtain ⟨p1, p2, p3, p4, p5, p6⟩ := hp
  dsimp only at *
  unfold Sm at *
  go_enter Yba.func31, Yba.ntmps31
  go_wp2
  refine bodyPost_ret (results_cell_row rfl _ _ (w.heap.size + 1) 31 _ _ _ rfl (alloc_new2 _ _ _) Yba.underlying31 rfl (by kernel_rfl)) rfl ?_
  exact ⟨rfl, (Chg.alloc _ _ _).trans (Chg.alloc _ _ _)⟩

def mn3 (x y z : Int) : Int := if z < if y < x then y else x then z else if y < x then y else x
def mx3 (x y z : Int) : Int := if (if x < y then y else x) < z then z else if x < y then y else x
theorem mn3_in {x y z : Int} (hx : -255 ≤ x ∧ x ≤ 255) (hy : -255 ≤ y ∧ y ≤ 255) (hz : -255 ≤ z ∧ z ≤ 255) : -255 ≤ mn3 x y z ∧ mn3 x y z ≤ 255 := by
  unfold mn3; split <;> split <;> omega
theorem mx3_in {x y z : Int} (hx : -255 ≤ x ∧ x ≤ 255) (hy : -255 ≤ y ∧ y ≤ 255) (hz : -255 ≤ z ∧ z ≤ 255) : -255 ≤ mx3 x y z ∧ mx3 x y z ≤ 255 := by
  unfold mx3; split <;> split <;> omega
set_option maxRecDepth 20000 in
set_option maxHeartbeats 800000 in
theorem sorted_walk (x y z : Int) (hx : -255 ≤ x ∧ x ≤ 255) (hy : -255 ≤ y ∧ y ≤ 255) (hz : -255 ≤ z ∧ z ≤ 255) (w : World) :
    Calls Yba.prog 32 #[.agg (arr3 x y z)] w fun e w' => e = .returned (.agg (arr3 (mn3 x y z) (x + y + z - mn3 x y z - mx3 x y z) (mx3 x y z))) ∧ Chg (fun _ => False) w w' := by
  go_enter Yba.func32, Yba.ntmps32
  go_wp2
  go_region
  have hm := mn3_in hx hy hz
  have hM := mx3_in hx hy hz
  have e1 : (if z < if y < x then y else x then z else if y < x then y else x) = mn3 x y z := rfl
  have e2 : (if (if x < y then y else x) < z then z else if x < y then y else x) = mx3 x y z := rfl
  rw [e1, e2]
  clear e1 e2
  go_wp2
  refine bodyPost_ret (results_cell_row rfl _ _ (w.heap.size + 1) 31 _ _ _ rfl (alloc_new2 _ _ _) Yba.underlying31 rfl (by kernel_rfl)) rfl ?_
  exact ⟨rfl, ((Chg.alloc _ _ _).trans (Chg.alloc _ _ _)).trans (Chg.drew _ _)⟩
end Go.Proofs.Ybulkamqs
