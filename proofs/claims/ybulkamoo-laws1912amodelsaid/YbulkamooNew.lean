/-
  OUR OWN. The contracts of 'setLimit' (14) on an empty cache, 'newPageCache' (6), 'zzs1912apage' (7), 'bytes.Equal' (10) on one slice twice.
-/
import Derived.Test.YbulkamooDrop
import Derived.Deep.LoopGhost
namespace Go.Proofs.Ybulkamoo
open Go.RowKit Go.MuLone
set_option linter.unusedVariables false

abbrev fresh (mb : Nat) (lim : Int) (st : Int) (cb : Nat) : Obj := .cells #[.int .i32 st, .int .u32 0, .int .i64 lim, .map (some mb), .int .i64 0, .slice none 0 0, .pointer (some ⟨cb, 4, none⟩), .pointer (some ⟨cb, 4, none⟩)] 48

set_option maxRecDepth 20000 in
set_option maxHeartbeats 800000 in
theorem setLimit_empty (w : World) (cb mb : Nat) (lim : Int) (hl : lim ≤ 127) (hl2 : -128 ≤ lim) (hb : w.heap[cb]? = some (fresh mb 0 0 cb)) (hm : MapIs w mb (Value.int .i64) []) :
    Calls Yba.prog 14 #[.pointer (some ⟨cb, 0, none⟩), .int .i64 lim] w fun e w' => e = .returned (.tuple #[]) ∧ w'.heap[cb]? = some (fresh mb (lim.toNat : Nat) 0 cb) ∧ Chg (fun i => i = cb) w w' := by
  have hmb : mb ≠ cb := fun e => by rw [e] at hm; exact hm.notCells hb
  have c0 : w.cell? ⟨cb, 0, none⟩ = some (.int .i32 0) := by rw [cell_of_row _ _ _ _ _ _ hb]; rfl
  have f0 : w.frozen? ⟨cb, 0, none⟩ = false := frozen_of_row _ _ _ _ _ hb
  have c2 : w.cell? ⟨cb, 2, none⟩ = some (.int .i64 0) := by rw [cell_of_row _ _ _ _ _ _ hb]; rfl
  have f2 : w.frozen? ⟨cb, 2, none⟩ = false := frozen_of_row _ _ _ _ _ hb
  have c3 : w.cell? ⟨cb, 3, none⟩ = some (.map (some mb)) := by rw [cell_of_row _ _ _ _ _ _ hb]; rfl
  have hlen : ∀ N v u, (Builtin.len_ #[43] 3 #[.map (some mb)]).run Yba.prog (((w.setCell ⟨cb, 0, none⟩ v).setCell ⟨cb, 2, none⟩ u).drewN N) = .ok (.int .i64 0) (((w.setCell ⟨cb, 0, none⟩ v).setCell ⟨cb, 2, none⟩ u).drewN N) := fun N v u =>
    (hm.kept (((Chg.setCell (fun i => i = cb) w _ _ rfl).trans (Chg.setCell (fun i => i = cb) _ ⟨cb, 2, none⟩ _ rfl)).trans (Chg.drewN _ _ N)) hmb).len (P := Yba.prog) Yba.underlying43 3
  have HB := hb
  have fin : ∀ (m : Int) (N : Nat), (m = (lim.toNat : Nat)) → ((((w.setCell ⟨cb, 0, none⟩ (.int .i32 1)).setCell ⟨cb, 2, none⟩ (.int .i64 m)).drewN N).setCell ⟨cb, 0, none⟩ (.int .i32 0)).heap[cb]? = some (fresh mb (lim.toNat : Nat) 0 cb) ∧ Chg (fun i => i = cb) w ((((w.setCell ⟨cb, 0, none⟩ (.int .i32 1)).setCell ⟨cb, 2, none⟩ (.int .i64 m)).drewN N).setCell ⟨cb, 0, none⟩ (.int .i32 0)) := by
    intro m N e
    subst e
    refine ⟨?_, (((Chg.setCell (fun i => i = cb) _ _ _ rfl).trans (Chg.setCell (fun i => i = cb) _ _ _ rfl)).trans (Chg.drewN _ _ N)).trans (Chg.setCell (fun i => i = cb) _ _ _ rfl)⟩
    exact heap_setCell_same _ cb 0 _ _ _ (heap_setCell_same _ cb 2 _ _ _ (heap_setCell_same w cb 0 _ _ _ hb))
  have HF : Hid _ := fin
  clear fin hm hb
  by_cases hn : lim < 0
  · go_enter_defers Yba.func14, Yba.ntmps14
    go_wp2_with (go_at_call 15; refine (lock_free Yba.muLib ⟨cb, 0, none⟩ _ c0 f0).mono ?_; rintro e w' ⟨rfl, rfl⟩)
    refine wp_loop_rounds 1 ?_
    rw [rounds_succ]
    go_wp2
    go_quiet (fail)
    go_wp2
    refine leaves_cons (f := 16) (args := #[.pointer (some ⟨cb, 0, none⟩)]) (by simp) (by simp [go_sem]) ?_
    refine (unlock_deferred Yba.muLib ⟨cb, 0, none⟩ .returning _ ?_ ?_).mono ?_
    · exact cell_off (w := w.setCell ⟨cb, 0, none⟩ (.int .i32 1)) (c := ⟨cb, 2, none⟩) (by simp) (cell_now ⟨_, c0⟩)
    · simp [f0]
    rintro e u' w'' ⟨rfl, rfl, rfl⟩
    exact ⟨_, results_none rfl _ _ _, rfl, HF.out 0 nq (by omega)⟩
  · go_enter_defers Yba.func14, Yba.ntmps14
    go_wp2_with (go_at_call 15; refine (lock_free Yba.muLib ⟨cb, 0, none⟩ _ c0 f0).mono ?_; rintro e w' ⟨rfl, rfl⟩)
    refine wp_loop_rounds 1 ?_
    rw [rounds_succ]
    go_wp2
    go_quiet (fail)
    go_wp2
    refine leaves_cons (f := 16) (args := #[.pointer (some ⟨cb, 0, none⟩)]) (by simp) (by simp [go_sem]) ?_
    refine (unlock_deferred Yba.muLib ⟨cb, 0, none⟩ .returning _ ?_ ?_).mono ?_
    · exact cell_off (w := w.setCell ⟨cb, 0, none⟩ (.int .i32 1)) (c := ⟨cb, 2, none⟩) (by simp) (cell_now ⟨_, c0⟩)
    · simp [f0]
    rintro e u' w'' ⟨rfl, rfl, rfl⟩
    exact ⟨_, results_none rfl _ _ _, rfl, HF.out lim nq (by omega)⟩

theorem CS.fresh {B : Nat} {w : World} {cb mb lim : Nat} (hb : w.heap[cb]? = some (fresh mb lim 0 cb)) (hm : MapIs w mb (Value.int .i64) []) (h1 : B ≤ cb) (h2 : B ≤ mb) : CS B w cb mb lim [] := by
  refine ⟨⟨⟨_, hb, rfl⟩, ⟨?_, ?_⟩, by simp, by simp⟩, ?_, ?_, ?_, ⟨[], hm, List.Perm.refl _⟩, by simp, Nat.zero_le _, by simp, h1, h2, by simp⟩
  all_goals (rw [cell_of_row _ _ _ _ _ _ hb]; rfl)

set_option maxRecDepth 20000 in
set_option maxHeartbeats 800000 in
theorem new_any (w : World) (lim : Int) (hl : lim ≤ 127) (hl2 : -128 ≤ lim) (B : Nat) (hB : B ≤ w.heap.size) :
    Calls Yba.prog 6 #[.int .i64 lim] w fun e w' => ∃ cb mb, e = .returned (.pointer (some ⟨cb, 0, none⟩)) ∧ CS B w' cb mb lim.toNat [] ∧ Chg (fun _ => False) w w' := by
  have hmm := @run_makeMap Yba.prog
  go_enter Yba.func6, Yba.ntmps6
  go_wp2
  have hb2 : ((w.alloc (.map #[] 0)).alloc (.cells #[.int .i32 0, .int .u32 0, .int .i64 0, .map (some w.heap.size), .int .i64 0, .slice none 0 0, .pointer none, .pointer none] 48)).heap[w.heap.size + 1]? = some (.cells #[.int .i32 0, .int .u32 0, .int .i64 0, .map (some w.heap.size), .int .i64 0, .slice none 0 0, .pointer none, .pointer none] 48 (0, 0)) := heap_alloc2_new w _ _
  have hm2 : MapIs ((w.alloc (.map #[] 0)).alloc (.cells #[.int .i32 0, .int .u32 0, .int .i64 0, .map (some w.heap.size), .int .i64 0, .slice none 0 0, .pointer none, .pointer none] 48)) w.heap.size (Value.int .i64) [] := (MapIs.made w _).kept (Chg.alloc (fun _ => False) _ _) (fun h => h)
  have hc2 : Chg (fun _ => False) w ((w.alloc (.map #[] 0)).alloc (.cells #[.int .i32 0, .int .u32 0, .int .i64 0, .map (some w.heap.size), .int .i64 0, .slice none 0 0, .pointer none, .pointer none] 48)) := (Chg.alloc _ _ _).trans (Chg.alloc _ _ _)
  generalize (w.alloc (.map #[] 0)).alloc (.cells #[.int .i32 0, .int .u32 0, .int .i64 0, .map (some w.heap.size), .int .i64 0, .slice none 0 0, .pointer none, .pointer none] 48) = w2 at *
  obtain ⟨cb, hcb⟩ : ∃ cb, cb = w.heap.size + 1 := ⟨_, rfl⟩
  rw [← hcb] at hb2 ⊢
  have HCB : Hid (cb = w.heap.size + 1) := hcb
  clear hcb
  have c6 : w2.cell? ⟨cb, 6, none⟩ = some (.pointer none) := by rw [cell_of_row _ _ _ _ _ _ hb2]; rfl
  have c7 : w2.cell? ⟨cb, 7, none⟩ = some (.pointer none) := by rw [cell_of_row _ _ _ _ _ _ hb2]; rfl
  have f6 : w2.frozen? ⟨cb, 6, none⟩ = false := frozen_of_row _ _ _ _ _ hb2
  have f7 : w2.frozen? ⟨cb, 7, none⟩ = false := frozen_of_row _ _ _ _ _ hb2
  go_region
  go_wp2_with fail
  have hb3 : ((w2.setCell ⟨cb, 6, none⟩ (.pointer (some ⟨cb, 4, none⟩))).setCell ⟨cb, 7, none⟩ (.pointer (some ⟨cb, 4, none⟩))).drew.heap[cb]? = some (fresh w.heap.size 0 0 cb) := heap_setCell_same _ cb 7 _ _ _ (heap_setCell_same w2 cb 6 _ _ _ hb2)
  have hch3 : Chg (fun i => i = cb) w2 ((w2.setCell ⟨cb, 6, none⟩ (.pointer (some ⟨cb, 4, none⟩))).setCell ⟨cb, 7, none⟩ (.pointer (some ⟨cb, 4, none⟩))).drew := ((Chg.setCell (fun i => i = cb) _ _ _ rfl).trans (Chg.setCell (fun i => i = cb) _ _ _ rfl)).trans (Chg.drew _ _)
  have hm3 := hm2.kept hch3 (by have := HCB.out; show ¬ w.heap.size = cb; omega)
  refine Calls.mono (setLimit_empty _ cb w.heap.size lim hl hl2 hb3 hm3) ?_
  rintro e w4 ⟨rfl, hb4, hc4⟩
  have hm4 := hm3.kept hc4 (by have := HCB.out; show ¬ w.heap.size = cb; omega)
  go_wp2
  go_ret
  exact ⟨cb, w.heap.size, rfl, CS.fresh hb4 hm4 (by have := HCB.out; omega) hB, (hc2.then hch3 (fun i hi => Or.inr (by have := HCB.out; omega))).then hc4 (fun i hi => Or.inr (by have := HCB.out; omega))⟩

set_option maxRecDepth 20000 in
theorem page_any (w : World) (i : Nat) (hi : i ≤ 1024) :
    Calls Yba.prog 7 #[.int .i64 i] w fun e w' => ∃ a b, e = .returned (.slice (some ⟨w.heap.size, 0, none⟩) 3 3) ∧ w' = w.alloc (.cells #[.int .u8 a, .int .u8 b, .int .u8 7] 5) := by
  go_enter Yba.func7, Yba.ntmps7
  go_wp2
  go_ret
  exact ⟨_, _, rfl, rfl⟩

/-- A page: a slice over a row of bytes. -/
def PgOk (w : World) (v : Value) : Prop := ∃ g l cs, v = .slice (some ⟨g, 0, none⟩) l l ∧ w.heap[g]? = some (.cells (List.map (Value.int .u8) cs).toArray 5 (0, 0)) ∧ cs.length = l
set_option maxRecDepth 20000 in
theorem equal_same (w : World) (v : Value) (hv : PgOk w v) : Calls Yba.prog 10 #[v, v] w fun e w' => e = .returned (.bool true) ∧ w = w' := by
  obtain ⟨g, l, cs, rfl, hg, hl⟩ := hv
  have hcv : (convert 30 9 (.slice (some ⟨g, 0, none⟩) l l)).run Yba.prog w = .ok (.string (strOfNums cs)) w := by
    refine run_convert_bytes_arg w 30 5 Yba.underlying30 Yba.underlying5 g 0 l l cs hl (fun i hi => ?_) 9 Yba.underlying9
    rw [Nat.zero_add, cell_of_row _ _ _ _ _ _ hg]
    have hi' : i < cs.length := by omega
    simp [List.getElem?_eq_getElem hi']
  go_enter Yba.func10, Yba.ntmps10
  go_wp2
  go_ret
  exact ⟨by simp, rfl⟩
end Go.Proofs.Ybulkamoo
