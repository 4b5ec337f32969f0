/-
  OUR OWN. b1916a: addPiece (9) where it leaves the pieces alone; a read-only region whose callees allocate, in a family of worlds.
-/
import Derived.Test.YbulkamqsOthers
import Derived.Test.YbulkamqsLeaf2
import Derived.Deep.DeepCutAuto
import Derived.Deep.CutBlock
import Derived.BigQuiet
namespace Go.Proofs.Ybulkamqs
open Go.RowKit
set_option linter.unusedVariables false
set_option linter.unusedSimpArgs false
/-- A region that only reads, whose callees may make blocks: in a family of worlds. -/
theorem region_fam {P : Program} {κ : Type} (F : κ → World) {id : Nat} {Q : Exit → Act → World → Prop} {a : Act} {w : World} {l : List Oper} (hm : P.follows .mixedOrders = true) (hB : Region.lexB .any l.toArray = true) (h0 : ∃ k, w.drew = F k)
    (h : wpQuiet P l.toArray (fun w' => ∃ k, w' = F k) (fun a' => ∀ w', (∃ k, w' = F k) → Q .normal a' w') l a) : (Code.region id l.toArray true).wp P Q a w :=
  wp_region_quiet (C := fun w' => ∃ k, w' = F k) hm hB h0 (by simpa using h)
set_option maxRecDepth 20000 in
set_option maxHeartbeats 1600000 in
theorem add_no (fc sb : Nat) (A : Nat → Value) (r0 r1 r2 : Int) (ko turn : Bool) (p q : Bx) (hp : p.Ok) (hq : q.Ok) (w : World) (hr : w.heap[sb]? = some (spRow A r0 r1 r2 turn ko)) (hm : meetsB p q = false) :
    Calls Yba.prog 9 #[.pointer (some ⟨sb, 0, none⟩), .int .i64 fc, .agg (cells6 p), .agg (cells6 q)] w fun e w' => e = .returned (.tuple #[]) ∧ Chg (fun _ => False) w w' := by
  have hme := fun W => meets_walk p q hp hq W
  rw [hm] at hme
  go_enter Yba.func9, Yba.ntmps9
  go_wp2_with fail
  have hch1 := (Chg.alloc (fun _ => False) w (Obj.cells (cells6 p) 33)).trans (Chg.alloc (fun _ => False) _ (Obj.cells (cells6 q) 33))
  have hr1 := (Chg.alloc (fun _ => False) _ (Obj.cells (cells6 q) 33)).at (heap_alloc_new w (Obj.cells (cells6 p) 33)) (fun h => h)
  have hr2 := alloc_new2 w (Obj.cells (cells6 p) 33) (Obj.cells (cells6 q) 33)
  generalize (w.alloc (Obj.cells (cells6 p) 33)).alloc (Obj.cells (cells6 q) 33) = w1 at *
  have HC1 : Hid (Chg (fun _ => False) w w1) := hch1
  obtain ⟨κ, F, hF, hF2⟩ : ∃ (κ : Type) (F : κ → World), (∀ k, Chg (fun _ => False) w1 (F k)) ∧ ∀ W, Chg (fun _ => False) w1 W → ∃ k, W = F k := ⟨{ W // Chg (fun _ => False) w1 W }, Subtype.val, fun k => k.2, fun W h => ⟨⟨W, h⟩, rfl⟩⟩
  have HF : Hid (∀ k, Chg (fun _ => False) w1 (F k)) := hF
  have HF2 : Hid (∀ W, Chg (fun _ => False) w1 W → ∃ k, W = F k) := hF2
  clear hF hF2 hch1
  have hne : Nonempty κ := by obtain ⟨k, _⟩ := HF2.out w1 (Chg.rfl' _ _); exact ⟨k⟩
  have c0 : ∀ k, (F k).cell? ⟨w.heap.size, 0, none⟩ = some (.int .i64 p.l0) := fun k => by rw [cell_of_row _ _ _ _ _ _ ((HF.out k).at hr1 (fun h => h))]; rfl
  have c1 : ∀ k, (F k).cell? ⟨w.heap.size, 1, none⟩ = some (.int .i64 p.l1) := fun k => by rw [cell_of_row _ _ _ _ _ _ ((HF.out k).at hr1 (fun h => h))]; rfl
  have c2 : ∀ k, (F k).cell? ⟨w.heap.size, 2, none⟩ = some (.int .i64 p.l2) := fun k => by rw [cell_of_row _ _ _ _ _ _ ((HF.out k).at hr1 (fun h => h))]; rfl
  have c3 : ∀ k, (F k).cell? ⟨w.heap.size, 3, none⟩ = some (.int .i64 p.h0) := fun k => by rw [cell_of_row _ _ _ _ _ _ ((HF.out k).at hr1 (fun h => h))]; rfl
  have c4 : ∀ k, (F k).cell? ⟨w.heap.size, 4, none⟩ = some (.int .i64 p.h1) := fun k => by rw [cell_of_row _ _ _ _ _ _ ((HF.out k).at hr1 (fun h => h))]; rfl
  have c5 : ∀ k, (F k).cell? ⟨w.heap.size, 5, none⟩ = some (.int .i64 p.h2) := fun k => by rw [cell_of_row _ _ _ _ _ _ ((HF.out k).at hr1 (fun h => h))]; rfl
  have d0 : ∀ k, (F k).cell? ⟨w.heap.size + 1, 0, none⟩ = some (.int .i64 q.l0) := fun k => by rw [cell_of_row _ _ _ _ _ _ ((HF.out k).at hr2 (fun h => h))]; rfl
  have d1 : ∀ k, (F k).cell? ⟨w.heap.size + 1, 1, none⟩ = some (.int .i64 q.l1) := fun k => by rw [cell_of_row _ _ _ _ _ _ ((HF.out k).at hr2 (fun h => h))]; rfl
  have d2 : ∀ k, (F k).cell? ⟨w.heap.size + 1, 2, none⟩ = some (.int .i64 q.l2) := fun k => by rw [cell_of_row _ _ _ _ _ _ ((HF.out k).at hr2 (fun h => h))]; rfl
  have d3 : ∀ k, (F k).cell? ⟨w.heap.size + 1, 3, none⟩ = some (.int .i64 q.h0) := fun k => by rw [cell_of_row _ _ _ _ _ _ ((HF.out k).at hr2 (fun h => h))]; rfl
  have d4 : ∀ k, (F k).cell? ⟨w.heap.size + 1, 4, none⟩ = some (.int .i64 q.h1) := fun k => by rw [cell_of_row _ _ _ _ _ _ ((HF.out k).at hr2 (fun h => h))]; rfl
  have d5 : ∀ k, (F k).cell? ⟨w.heap.size + 1, 5, none⟩ = some (.int .i64 q.h2) := fun k => by rw [cell_of_row _ _ _ _ _ _ ((HF.out k).at hr2 (fun h => h))]; rfl
  refine region_fam F (by kernel_rfl) (by kernel_rfl) (HF2.out _ (Chg.drew _ _)) ?_
  repeat (go_big_quiet_step ((go_at_call 17; exact (hme _).mono (fun e W h => ⟨h.1, HF2.out W ((HF.out _).trans h.2)⟩))))
  refine wpQuiet_nil ?_
  rintro w2 ⟨k, rfl⟩
  have HC2 : Hid (Chg (fun _ => False) w (F k)) := HC1.out.trans (HF.out k)
  go_wp2
  refine bodyPost_ret (results_none rfl _ _ _) rfl ?_
  exact ⟨rfl, HC2.out⟩
set_option maxRecDepth 20000 in
set_option maxHeartbeats 1600000 in
theorem add_no2 (fc sb : Nat) (A : Nat → Value) (r0 r1 r2 : Int) (turn : Bool) (p q : Bx) (hp : p.Ok) (hq : q.Ok) (w : World) (hr : w.heap[sb]? = some (spRow A r0 r1 r2 turn true)) (hm : meetsB p q = true) (hf : fits p r0 r1 r2 turn = false) :
    Calls Yba.prog 9 #[.pointer (some ⟨sb, 0, none⟩), .int .i64 fc, .agg (cells6 p), .agg (cells6 q)] w fun e w' => e = .returned (.tuple #[]) ∧ Chg (fun _ => False) w w' := by
  have hme := fun W => meets_walk p q hp hq W
  rw [hm] at hme
  go_enter Yba.func9, Yba.ntmps9
  go_wp2_with fail
  have hch1 := (Chg.alloc (fun _ => False) w (Obj.cells (cells6 p) 33)).trans (Chg.alloc (fun _ => False) _ (Obj.cells (cells6 q) 33))
  have hr1 := (Chg.alloc (fun _ => False) _ (Obj.cells (cells6 q) 33)).at (heap_alloc_new w (Obj.cells (cells6 p) 33)) (fun h => h)
  have hr2 := alloc_new2 w (Obj.cells (cells6 p) 33) (Obj.cells (cells6 q) 33)
  generalize (w.alloc (Obj.cells (cells6 p) 33)).alloc (Obj.cells (cells6 q) 33) = w1 at *
  have HC1 : Hid (Chg (fun _ => False) w w1) := hch1
  obtain ⟨κ, F, hF, hF2⟩ : ∃ (κ : Type) (F : κ → World), (∀ k, Chg (fun _ => False) w1 (F k)) ∧ ∀ W, Chg (fun _ => False) w1 W → ∃ k, W = F k := ⟨{ W // Chg (fun _ => False) w1 W }, Subtype.val, fun k => k.2, fun W h => ⟨⟨W, h⟩, rfl⟩⟩
  have HF : Hid (∀ k, Chg (fun _ => False) w1 (F k)) := hF
  have HF2 : Hid (∀ W, Chg (fun _ => False) w1 W → ∃ k, W = F k) := hF2
  clear hF hF2 hch1
  have hne : Nonempty κ := by obtain ⟨k, _⟩ := HF2.out w1 (Chg.rfl' _ _); exact ⟨k⟩
  have c0 : ∀ k, (F k).cell? ⟨w.heap.size, 0, none⟩ = some (.int .i64 p.l0) := fun k => by rw [cell_of_row _ _ _ _ _ _ ((HF.out k).at hr1 (fun h => h))]; rfl
  have c1 : ∀ k, (F k).cell? ⟨w.heap.size, 1, none⟩ = some (.int .i64 p.l1) := fun k => by rw [cell_of_row _ _ _ _ _ _ ((HF.out k).at hr1 (fun h => h))]; rfl
  have c2 : ∀ k, (F k).cell? ⟨w.heap.size, 2, none⟩ = some (.int .i64 p.l2) := fun k => by rw [cell_of_row _ _ _ _ _ _ ((HF.out k).at hr1 (fun h => h))]; rfl
  have c3 : ∀ k, (F k).cell? ⟨w.heap.size, 3, none⟩ = some (.int .i64 p.h0) := fun k => by rw [cell_of_row _ _ _ _ _ _ ((HF.out k).at hr1 (fun h => h))]; rfl
  have c4 : ∀ k, (F k).cell? ⟨w.heap.size, 4, none⟩ = some (.int .i64 p.h1) := fun k => by rw [cell_of_row _ _ _ _ _ _ ((HF.out k).at hr1 (fun h => h))]; rfl
  have c5 : ∀ k, (F k).cell? ⟨w.heap.size, 5, none⟩ = some (.int .i64 p.h2) := fun k => by rw [cell_of_row _ _ _ _ _ _ ((HF.out k).at hr1 (fun h => h))]; rfl
  have d0 : ∀ k, (F k).cell? ⟨w.heap.size + 1, 0, none⟩ = some (.int .i64 q.l0) := fun k => by rw [cell_of_row _ _ _ _ _ _ ((HF.out k).at hr2 (fun h => h))]; rfl
  have d1 : ∀ k, (F k).cell? ⟨w.heap.size + 1, 1, none⟩ = some (.int .i64 q.l1) := fun k => by rw [cell_of_row _ _ _ _ _ _ ((HF.out k).at hr2 (fun h => h))]; rfl
  have d2 : ∀ k, (F k).cell? ⟨w.heap.size + 1, 2, none⟩ = some (.int .i64 q.l2) := fun k => by rw [cell_of_row _ _ _ _ _ _ ((HF.out k).at hr2 (fun h => h))]; rfl
  have d3 : ∀ k, (F k).cell? ⟨w.heap.size + 1, 3, none⟩ = some (.int .i64 q.h0) := fun k => by rw [cell_of_row _ _ _ _ _ _ ((HF.out k).at hr2 (fun h => h))]; rfl
  have d4 : ∀ k, (F k).cell? ⟨w.heap.size + 1, 4, none⟩ = some (.int .i64 q.h1) := fun k => by rw [cell_of_row _ _ _ _ _ _ ((HF.out k).at hr2 (fun h => h))]; rfl
  have d5 : ∀ k, (F k).cell? ⟨w.heap.size + 1, 5, none⟩ = some (.int .i64 q.h2) := fun k => by rw [cell_of_row _ _ _ _ _ _ ((HF.out k).at hr2 (fun h => h))]; rfl
  have hrs := HC1.out.at hr (fun h => h)
  have z0 : ∀ k, (F k).cell? ⟨sb, 14, none⟩ = some (.int .i64 r0) := fun k => by rw [cell_of_row _ _ _ _ _ _ ((HF.out k).at hrs (fun h => h))]; rfl
  have z1 : ∀ k, (F k).cell? ⟨sb, 15, none⟩ = some (.int .i64 r1) := fun k => by rw [cell_of_row _ _ _ _ _ _ ((HF.out k).at hrs (fun h => h))]; rfl
  have z2 : ∀ k, (F k).cell? ⟨sb, 16, none⟩ = some (.int .i64 r2) := fun k => by rw [cell_of_row _ _ _ _ _ _ ((HF.out k).at hrs (fun h => h))]; rfl
  have z3 : ∀ k, (F k).cell? ⟨sb, 17, none⟩ = some (.bool turn) := fun k => by rw [cell_of_row _ _ _ _ _ _ ((HF.out k).at hrs (fun h => h))]; rfl
  have z4 : ∀ k, (F k).cell? ⟨sb, 18, none⟩ = some (.bool true) := fun k => by rw [cell_of_row _ _ _ _ _ _ ((HF.out k).at hrs (fun h => h))]; rfl
  have hho := fun k => holds_walk w.heap.size p hp r0 r1 r2 turn (F k) ((HF.out k).at hr1 (fun h => h))
  rw [hf] at hho
  refine region_fam F (by kernel_rfl) (by kernel_rfl) (HF2.out _ (Chg.drew _ _)) ?_
  repeat (go_big_quiet_step ((first | (go_at_call 17; exact (hme _).mono (fun e W h => ⟨h.1, HF2.out W ((HF.out _).trans h.2)⟩)) | (go_at_call 18; exact (hho _).mono (fun e W h => ⟨h.1, HF2.out W ((HF.out _).trans h.2)⟩)))))
  refine wpQuiet_nil ?_
  rintro w2 ⟨k, rfl⟩
  have HC2 : Hid (Chg (fun _ => False) w (F k)) := HC1.out.trans (HF.out k)
  go_wp2
  refine bodyPost_ret (results_none rfl _ _ _) rfl ?_
  exact ⟨rfl, HC2.out⟩
end Go.Proofs.Ybulkamqs
