/-
  OUR OWN. b1916a: laws for the walk of LawS1916AInsertSorted (3).
-/
import Derived.Test.YbulkamqsAdd4
import Derived.Test.YbulkamqsSort
import Derived.Test.YbulkamqsOthers
import Derived.Test.YbulkamqsInv
namespace Go.Proofs.Ybulkamqs
open Go.RowKit
set_option linter.unusedVariables false
set_option linter.unusedSimpArgs false
theorem info3r : (Yba.prog.info? 3).map (fun i => (i.zero, i.size, i.bytes)) = some (some (.int .i64 0), 1, 8) := by kernel_rfl
theorem ints_at {zs : List Int} {i : Nat} {x : Int} (h : zs[i]? = some x) : (ints zs)[i]? = some (.int .i64 x) := by rw [List.getElem?_map, h]; rfl
theorem Chg.cell {S : Nat → Prop} {w w' : World} (h : Chg S w w') {b o : Nat} {v : Value} (hc : w.cell? ⟨b, o, none⟩ = some v) (hs : ¬ S b) : w'.cell? ⟨b, o, none⟩ = some v := by
  have hb : b < w.heap.size := block_lt_of_cell hc
  have := h.block b hb hs
  unfold World.cell? at hc ⊢
  rw [this]
  exact hc
/-- What the law has boxed, and that nothing older is touched. -/
structure St (w : World) (p q : Bx) (r0 r1 r2 : Int) (wr : World) : Prop where
  rp : wr.heap[w.heap.size]? = some (.cells (cells8 p) 25 (0, 0))
  rq : wr.heap[w.heap.size + 1]? = some (.cells (cells8 q) 25 (0, 0))
  rf : wr.heap[w.heap.size + 1 + 1]? = some (.cells #[.int .i8 r0, .int .i8 r1, .int .i8 r2] 23 (0, 0))
  ch : Chg (fun _ => False) w wr
theorem St.kept {w : World} {p q : Bx} {r0 r1 r2 : Int} {wr wr' : World} {S : Nat → Prop} (h : St w p q r0 r1 r2 wr) (hc : Chg S wr wr') (hS : ∀ i, S i → w.heap.size + 3 ≤ i) : St w p q r0 r1 r2 wr' :=
  ⟨hc.at h.rp (fun h => by have := hS _ h; omega), hc.at h.rq (fun h => by have := hS _ h; omega), hc.at h.rf (fun h => by have := hS _ h; omega), h.ch.then hc (fun i hi => Or.inr (by have := hS _ hi; omega))⟩
theorem St.first (w : World) (p q : Bx) (r0 r1 r2 : Int) : St w p q r0 r1 r2 (((w.alloc (Obj.cells (cells8 p) 25)).alloc (Obj.cells (cells8 q) 25)).alloc (Obj.cells #[.int .i8 r0, .int .i8 r1, .int .i8 r2] 23)) := by
  have c1 := Chg.alloc (fun _ => False) w (Obj.cells (cells8 p) 25)
  have c2 := Chg.alloc (fun _ => False) (w.alloc (Obj.cells (cells8 p) 25)) (Obj.cells (cells8 q) 25)
  have c3 := Chg.alloc (fun _ => False) ((w.alloc (Obj.cells (cells8 p) 25)).alloc (Obj.cells (cells8 q) 25)) (Obj.cells #[.int .i8 r0, .int .i8 r1, .int .i8 r2] 23)
  refine ⟨c3.at (c2.at (heap_alloc_new w _) (fun h => h)) (fun h => h), c3.at (alloc_new2 w _ _) (fun h => h), ?_, (c1.trans c2).trans c3⟩
  have := alloc_new2 (w.alloc (Obj.cells (cells8 p) 25)) (Obj.cells (cells8 q) 25) (Obj.cells #[.int .i8 r0, .int .i8 r1, .int .i8 r2] 23)
  rwa [World.size_alloc] at this
theorem St.size {w : World} {p q : Bx} {r0 r1 r2 : Int} {wr : World} (h : St w p q r0 r1 r2 wr) : w.heap.size + 3 ≤ wr.heap.size := by
  have := lt_of_block h.rf; omega
/-- Where two boxes are turned and laid, in any order: what stands when. -/
structure I23 (w : World) (p q : Bx) (b : Nat → Bool) (v23 v24 v101 v102 v103 v104 : Value) (w' : World) : Prop where
  ch : Chg (fun _ => False) w w'
  b0 : b 0 = true → v101 = .agg (cells8 p)
  b1 : b 1 = true → v102 = .agg (cells6 p)
  b2 : b 2 = true → v103 = .agg (cells8 q)
  b3 : b 3 = true → v104 = .agg (cells6 q)
  b4 : b 4 = true → ∃ pb c0 c1 c2 c3 c4 c5, v23 = .pointer (some ⟨pb, 0, none⟩) ∧ w.heap.size ≤ pb ∧ w'.heap[pb]? = some (.cells #[c0, c1, c2, c3, c4, c5] 33 (0, 0)) ∧ (b 6 = true → #[c0, c1, c2, c3, c4, c5] = cells6 p)
  b5 : b 5 = true → ∃ pb c0 c1 c2 c3 c4 c5, v24 = .pointer (some ⟨pb, 0, none⟩) ∧ w.heap.size ≤ pb ∧ w'.heap[pb]? = some (.cells #[c0, c1, c2, c3, c4, c5] 33 (0, 0)) ∧ (b 7 = true → #[c0, c1, c2, c3, c4, c5] = cells6 q)
  ne : b 4 = true → b 5 = true → v23 ≠ v24
  d6 : b 6 = true → b 4 = true
  d7 : b 7 = true → b 5 = true
theorem I23.first (w : World) (p q : Bx) : I23 w p q (fun _ => false) undef undef undef undef undef undef w.drew :=
  ⟨Chg.drew _ _, fun h => (by cases h), fun h => (by cases h), fun h => (by cases h), fun h => (by cases h), fun h => (by cases h), fun h => (by cases h), fun h => (by cases h), fun h => (by cases h), fun h => (by cases h)⟩
section
variable {w : World} {p q : Bx} {b : Nat → Bool} {v23 v24 v101 v102 v103 v104 : Value} {w' : World}
theorem I23.s0 (h : I23 w p q b v23 v24 v101 v102 v103 v104 w') : I23 w p q (fun j => decide (j = 0) || b j) v23 v24 (.agg (cells8 p)) v102 v103 v104 w' :=
  ⟨h.ch, fun _ => rfl, h.b1, h.b2, h.b3, h.b4, h.b5, h.ne, h.d6, h.d7⟩
theorem I23.s2 (h : I23 w p q b v23 v24 v101 v102 v103 v104 w') : I23 w p q (fun j => decide (j = 2) || b j) v23 v24 v101 v102 (.agg (cells8 q)) v104 w' :=
  ⟨h.ch, h.b0, h.b1, fun _ => rfl, h.b3, h.b4, h.b5, h.ne, h.d6, h.d7⟩
theorem I23.world (h : I23 w p q b v23 v24 v101 v102 v103 v104 w') {w2 : World} (hc : Chg (fun _ => False) w' w2) : I23 w p q b v23 v24 v101 v102 v103 v104 w2 := by
  refine ⟨h.ch.trans hc, h.b0, h.b1, h.b2, h.b3, fun hb => ?_, fun hb => ?_, h.ne, h.d6, h.d7⟩
  · obtain ⟨pb, c0, c1, c2, c3, c4, c5, e, hl, hr, h6⟩ := h.b4 hb
    exact ⟨pb, c0, c1, c2, c3, c4, c5, e, hl, hc.at hr (fun h => h), h6⟩
  · obtain ⟨pb, c0, c1, c2, c3, c4, c5, e, hl, hr, h6⟩ := h.b5 hb
    exact ⟨pb, c0, c1, c2, c3, c4, c5, e, hl, hc.at hr (fun h => h), h6⟩
theorem I23.s1 (h : I23 w p q b v23 v24 v101 v102 v103 v104 w') {w2 : World} (hc : Chg (fun _ => False) w' w2) : I23 w p q (fun j => decide (j = 1) || b j) v23 v24 v101 (.agg (cells6 p)) v103 v104 w2 :=
  have h := h.world hc
  ⟨h.ch, h.b0, fun _ => rfl, h.b2, h.b3, h.b4, h.b5, h.ne, h.d6, h.d7⟩
theorem I23.s3 (h : I23 w p q b v23 v24 v101 v102 v103 v104 w') {w2 : World} (hc : Chg (fun _ => False) w' w2) : I23 w p q (fun j => decide (j = 3) || b j) v23 v24 v101 v102 v103 (.agg (cells6 q)) w2 :=
  have h := h.world hc
  ⟨h.ch, h.b0, h.b1, h.b2, fun _ => rfl, h.b4, h.b5, h.ne, h.d6, h.d7⟩
theorem I23.s4 (h : I23 w p q b v23 v24 v101 v102 v103 v104 w') (hk : b 4 = false) (c0 c1 c2 c3 c4 c5 : Value) : I23 w p q (fun j => decide (j = 4) || b j) (.pointer (some ⟨w'.heap.size, 0, none⟩)) v24 v101 v102 v103 v104 (w'.alloc (.cells #[c0, c1, c2, c3, c4, c5] 33)) := by
  have hw := h.world (Chg.alloc _ w' (.cells #[c0, c1, c2, c3, c4, c5] 33))
  refine ⟨hw.ch, hw.b0, hw.b1, hw.b2, hw.b3, fun _ => ⟨w'.heap.size, c0, c1, c2, c3, c4, c5, rfl, h.ch.size, heap_alloc_new w' _, fun h6 => ?_⟩, hw.b5, fun _ h5 e => ?_, fun _ => rfl, hw.d7⟩
  · have := h.d6 h6
    rw [hk] at this; cases this
  · obtain ⟨pb, _, _, _, _, _, _, e2, _, hr, _⟩ := h.b5 h5
    have := lt_of_block hr
    rw [e2] at e
    simp at e <;> omega
theorem I23.s5 (h : I23 w p q b v23 v24 v101 v102 v103 v104 w') (hk : b 5 = false) (c0 c1 c2 c3 c4 c5 : Value) : I23 w p q (fun j => decide (j = 5) || b j) v23 (.pointer (some ⟨w'.heap.size, 0, none⟩)) v101 v102 v103 v104 (w'.alloc (.cells #[c0, c1, c2, c3, c4, c5] 33)) := by
  have hw := h.world (Chg.alloc _ w' (.cells #[c0, c1, c2, c3, c4, c5] 33))
  refine ⟨hw.ch, hw.b0, hw.b1, hw.b2, hw.b3, hw.b4, fun _ => ⟨w'.heap.size, c0, c1, c2, c3, c4, c5, rfl, h.ch.size, heap_alloc_new w' _, fun h6 => ?_⟩, fun h5 _ e => ?_, hw.d6, fun _ => rfl⟩
  · have := h.d7 h6
    rw [hk] at this; cases this
  · obtain ⟨pb, _, _, _, _, _, _, e2, _, hr, _⟩ := h.b4 h5
    have := lt_of_block hr
    rw [e2] at e
    simp at e <;> omega
theorem I23.s6 {pb : Nat} (h : I23 w p q b (.pointer (some ⟨pb, 0, none⟩)) v24 v101 v102 v103 v104 w') (h4 : b 4 = true) {W : World} (hc : Chg (fun i => i = pb) w' W) (hr : W.heap[pb]? = some (.cells (cells6 p) 33 (0, 0))) :
    I23 w p q (fun j => decide (j = 6) || b j) (.pointer (some ⟨pb, 0, none⟩)) v24 v101 v102 v103 v104 W := by
  obtain ⟨pb', c0, c1, c2, c3, c4, c5, e, hl, _, _⟩ := h.b4 h4
  have e' : pb = pb' := by simpa using e
  subst e'
  refine ⟨h.ch.then hc (fun i hi => Or.inr (by omega)), h.b0, h.b1, h.b2, h.b3, fun _ => ⟨pb, _, _, _, _, _, _, rfl, hl, hr, fun _ => rfl⟩, fun h5 => ?_, h.ne, fun _ => h4, h.d7⟩
  obtain ⟨qb, d0, d1, d2, d3, d4, d5, e2, hl2, hr2, h7⟩ := h.b5 h5
  refine ⟨qb, d0, d1, d2, d3, d4, d5, e2, hl2, hc.at hr2 (fun e => ?_), h7⟩
  exact h.ne h4 h5 (by rw [e2, e])
theorem I23.s7 {pb : Nat} (h : I23 w p q b v23 (.pointer (some ⟨pb, 0, none⟩)) v101 v102 v103 v104 w') (h5 : b 5 = true) {W : World} (hc : Chg (fun i => i = pb) w' W) (hr : W.heap[pb]? = some (.cells (cells6 q) 33 (0, 0))) :
    I23 w p q (fun j => decide (j = 7) || b j) v23 (.pointer (some ⟨pb, 0, none⟩)) v101 v102 v103 v104 W := by
  obtain ⟨pb', c0, c1, c2, c3, c4, c5, e, hl, _, _⟩ := h.b5 h5
  have e' : pb = pb' := by simpa using e
  subst e'
  refine ⟨h.ch.then hc (fun i hi => Or.inr (by omega)), h.b0, h.b1, h.b2, h.b3, fun h4 => ?_, fun _ => ⟨pb, _, _, _, _, _, _, rfl, hl, hr, fun _ => rfl⟩, h.ne, h.d6, fun _ => h5⟩
  obtain ⟨qb, d0, d1, d2, d3, d4, d5, e2, hl2, hr2, h7⟩ := h.b4 h4
  refine ⟨qb, d0, d1, d2, d3, d4, d5, e2, hl2, hc.at hr2 (fun e => ?_), h7⟩
  exact h.ne h4 h5 (by rw [e2, e])
end
theorem put6_head {w : World} {b : Nat} {a0 a1 a2 a3 a4 a5 : Value} {t : TypeId} (h : w.heap[b]? = some (.cells #[a0, a1, a2, a3, a4, a5] t (0, 0))) (v0 v1 v2 v3 v4 v5 : Value) {W : World}
    (hW : ((((((w.setCell ⟨b, 0, none⟩ v0).setCell ⟨b, 1, none⟩ v1).setCell ⟨b, 2, none⟩ v2).setCell ⟨b, 3, none⟩ v3).setCell ⟨b, 4, none⟩ v4).setCell ⟨b, 5, none⟩ v5) = W) :
    W.heap[b]? = some (.cells #[v0, v1, v2, v3, v4, v5] t (0, 0)) ∧ Chg (fun i => i = b) w W := by
  have c1 := Chg.setCell (fun i => i = b) w ⟨b, 0, none⟩ v0 rfl
  have h : (w.setCell ⟨b, 0, none⟩ v0).heap[b]? = some (.cells #[v0, a1, a2, a3, a4, a5] t (0, 0)) := heap_setCell_same w b 0 _ _ v0 h
  generalize w.setCell ⟨b, 0, none⟩ v0 = w1 at *
  have c2 := c1.trans (Chg.setCell (fun i => i = b) w1 ⟨b, 1, none⟩ v1 rfl)
  have h : (w1.setCell ⟨b, 1, none⟩ v1).heap[b]? = some (.cells #[v0, v1, a2, a3, a4, a5] t (0, 0)) := heap_setCell_same w1 b 1 _ _ v1 h
  generalize w1.setCell ⟨b, 1, none⟩ v1 = w2 at *
  have c3 := c2.trans (Chg.setCell (fun i => i = b) w2 ⟨b, 2, none⟩ v2 rfl)
  have h : (w2.setCell ⟨b, 2, none⟩ v2).heap[b]? = some (.cells #[v0, v1, v2, a3, a4, a5] t (0, 0)) := heap_setCell_same w2 b 2 _ _ v2 h
  generalize w2.setCell ⟨b, 2, none⟩ v2 = w3 at *
  have c4 := c3.trans (Chg.setCell (fun i => i = b) w3 ⟨b, 3, none⟩ v3 rfl)
  have h : (w3.setCell ⟨b, 3, none⟩ v3).heap[b]? = some (.cells #[v0, v1, v2, v3, a4, a5] t (0, 0)) := heap_setCell_same w3 b 3 _ _ v3 h
  generalize w3.setCell ⟨b, 3, none⟩ v3 = w4 at *
  have c5 := c4.trans (Chg.setCell (fun i => i = b) w4 ⟨b, 4, none⟩ v4 rfl)
  have h : (w4.setCell ⟨b, 4, none⟩ v4).heap[b]? = some (.cells #[v0, v1, v2, v3, v4, a5] t (0, 0)) := heap_setCell_same w4 b 4 _ _ v4 h
  generalize w4.setCell ⟨b, 4, none⟩ v4 = w5 at *
  have c6 := c5.trans (Chg.setCell (fun i => i = b) w5 ⟨b, 5, none⟩ v5 rfl)
  have h : (w5.setCell ⟨b, 5, none⟩ v5).heap[b]? = some (.cells #[v0, v1, v2, v3, v4, v5] t (0, 0)) := heap_setCell_same w5 b 5 _ _ v5 h
  subst hW
  exact ⟨h, c6⟩
theorem sp_fit {w : World} {sb : Nat} {A : Nat → Value} (h : w.heap[sb]? = some (spRow A 0 0 0 false false)) (r0 r1 r2 : Int) (turn ko : Bool) {W : World}
    (hW : ((((w.setCell ⟨sb, 14, none⟩ (.int .i64 r0)).setCell ⟨sb, 15, none⟩ (.int .i64 r1)).setCell ⟨sb, 16, none⟩ (.int .i64 r2)).setCell ⟨sb, 17, none⟩ (.bool turn)).setCell ⟨sb, 18, none⟩ (.bool ko) = W) :
    W.heap[sb]? = some (spRow A r0 r1 r2 turn ko) ∧ Chg (fun i => i = sb) w W ∧ W.heap.size = w.heap.size := by
  have h1 : (w.setCell ⟨sb, 14, none⟩ (.int .i64 r0)).heap[sb]? = some (spRow A r0 0 0 false false) := heap_setCell_same w sb 14 _ _ _ h
  have c1 := Chg.setCell (fun i => i = sb) w ⟨sb, 14, none⟩ (.int .i64 r0) rfl
  have z1 : (w.setCell ⟨sb, 14, none⟩ (.int .i64 r0)).heap.size = w.heap.size := by simp
  generalize w.setCell ⟨sb, 14, none⟩ (.int .i64 r0) = w1 at *
  have h2 : (w1.setCell ⟨sb, 15, none⟩ (.int .i64 r1)).heap[sb]? = some (spRow A r0 r1 0 false false) := heap_setCell_same w1 sb 15 _ _ _ h1
  have c2 := c1.trans (Chg.setCell (fun i => i = sb) w1 ⟨sb, 15, none⟩ (.int .i64 r1) rfl)
  have z2 : (w1.setCell ⟨sb, 15, none⟩ (.int .i64 r1)).heap.size = w.heap.size := by simp [z1]
  generalize w1.setCell ⟨sb, 15, none⟩ (.int .i64 r1) = w2 at *
  have h3 : (w2.setCell ⟨sb, 16, none⟩ (.int .i64 r2)).heap[sb]? = some (spRow A r0 r1 r2 false false) := heap_setCell_same w2 sb 16 _ _ _ h2
  have c3 := c2.trans (Chg.setCell (fun i => i = sb) w2 ⟨sb, 16, none⟩ (.int .i64 r2) rfl)
  have z3 : (w2.setCell ⟨sb, 16, none⟩ (.int .i64 r2)).heap.size = w.heap.size := by simp [z2]
  generalize w2.setCell ⟨sb, 16, none⟩ (.int .i64 r2) = w3 at *
  have h4 : (w3.setCell ⟨sb, 17, none⟩ (.bool turn)).heap[sb]? = some (spRow A r0 r1 r2 turn false) := heap_setCell_same w3 sb 17 _ _ _ h3
  have c4 := c3.trans (Chg.setCell (fun i => i = sb) w3 ⟨sb, 17, none⟩ (.bool turn) rfl)
  have z4 : (w3.setCell ⟨sb, 17, none⟩ (.bool turn)).heap.size = w.heap.size := by simp [z3]
  generalize w3.setCell ⟨sb, 17, none⟩ (.bool turn) = w4 at *
  have h5 : (w4.setCell ⟨sb, 18, none⟩ (.bool ko)).heap[sb]? = some (spRow A r0 r1 r2 turn ko) := heap_setCell_same w4 sb 18 _ _ _ h4
  have c5 := c4.trans (Chg.setCell (fun i => i = sb) w4 ⟨sb, 18, none⟩ (.bool ko) rfl)
  have z5 : (w4.setCell ⟨sb, 18, none⟩ (.bool ko)).heap.size = w.heap.size := by simp [z4]
  subst hW
  exact ⟨h5, c5, z5⟩
theorem desc (zs : List Int) : (zs.mergeSort fun x y => decide (x ≤ y)).reverse.Pairwise (fun a b => b ≤ a) := by
  rw [List.pairwise_reverse]
  have := List.pairwise_mergeSort (le := fun x y : Int => decide (x ≤ y)) (fun a b c h1 h2 => by simp at *; omega) (fun a b => by simp; omega) zs
  exact this.imp (fun h => by simpa using h)
end Go.Proofs.Ybulkamqs
