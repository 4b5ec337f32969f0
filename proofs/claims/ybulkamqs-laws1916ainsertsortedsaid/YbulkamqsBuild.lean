/-
  OUR OWN. b1916a: the splitter's block; 'zzs1916abuild' (7), walked.
-/
import Derived.Test.YbulkamqsClone
import Derived.Deep.DeepCutAuto
import Derived.Deep.CutBlock
namespace Go.Proofs.Ybulkamqs
open Go.RowKit
set_option linter.unusedVariables false
set_option linter.unusedSimpArgs false
abbrev nilS : Value := .slice none 0 0
/-- The splitter: its six slices 'against', its fit, its two marks. -/
abbrev spRow (A : Nat → Value) (f0 f1 f2 : Int) (kt ko : Bool) : Obj :=
  .cells #[nilS, nilS, nilS, nilS, nilS, nilS, nilS, nilS, A 0, A 1, A 2, A 3, A 4, A 5, .int .i64 f0, .int .i64 f1, .int .i64 f2, .bool kt, .bool ko] 42 (0, 0)
def upd (A : Nat → Value) (t : Nat) (v : Value) : Nat → Value := fun j => if j = t then v else A j
theorem sp_set {w : World} {sb : Nat} {A : Nat → Value} {f0 f1 f2 : Int} {kt ko : Bool} (h : w.heap[sb]? = some (spRow A f0 f1 f2 kt ko)) (t : Nat) (ht : t < 6) (v : Value) :
    (w.setCell ⟨sb, 8 + t, none⟩ v).heap[sb]? = some (spRow (upd A t v) f0 f1 f2 kt ko) := by
  have := heap_setCell_same w sb (8 + t) _ _ v h
  match t, ht with
  | 0, _ => exact this
  | 1, _ => exact this
  | 2, _ => exact this
  | 3, _ => exact this
  | 4, _ => exact this
  | 5, _ => exact this
theorem sp_cell {w : World} {sb : Nat} {A : Nat → Value} {f0 f1 f2 : Int} {kt ko : Bool} (h : w.heap[sb]? = some (spRow A f0 f1 f2 kt ko)) (t : Nat) (ht : t < 6) : w.cell? ⟨sb, 8 + t, none⟩ = some (A t) := by
  rw [cell_of_row _ _ _ _ _ _ h]
  match t, ht with
  | 0, _ => rfl
  | 1, _ => rfl
  | 2, _ => rfl
  | 3, _ => rfl
  | 4, _ => rfl
  | 5, _ => rfl
/-- The one box that lies against a face that is not asked about. -/
def OneBox (w : World) (v : Value) (j : Nat) : Prop := ∃ g, v = .slice (some ⟨g, 0, none⟩) 1 1 ∧ w.heap[g]? = some (.cells #[.int .i64 (-1), .int .i64 j, .int .i64 0, .int .i64 0, .int .i64 0, .int .i64 0, .int .i64 j] 35 (0, 0))

theorem len_of {w : World} {base : Nat} {e : TypeId} {size : Nat} {v : Value} {n : Nat} {xs : List Value} (ho : w.ownsRow base e size v n xs) : ∃ a c, v = .slice a n c := by
  rcases ho.2 with ⟨rfl, rfl⟩ | ⟨g, cap, cur, rfl, _⟩
  · exact ⟨none, 0, rfl⟩
  · exact ⟨_, _, rfl⟩
theorem ownsRow_le {w : World} {base base' : Nat} {e : TypeId} {size : Nat} {v : Value} {n : Nat} {xs : List Value} (ho : w.ownsRow base e size v n xs) (h : base' ≤ base) : w.ownsRow base' e size v n xs := by
  refine ⟨ho.1, ?_⟩
  rcases ho.2 with h0 | ⟨g, cap, cur, h1, h2, h3⟩
  · exact .inl h0
  · exact .inr ⟨g, cap, cur, h1, Nat.le_trans h h2, h3⟩
theorem OneBox.kept {w w' : World} {v : Value} {j : Nat} {S : Nat → Prop} (h : OneBox w v j) (hc : Chg S w w') (hs : ∀ g, w.heap[g]? = some (.cells #[.int .i64 (-1), .int .i64 j, .int .i64 0, .int .i64 0, .int .i64 0, .int .i64 0, .int .i64 j] 35 (0, 0)) → ¬ S g) : OneBox w' v j := by
  obtain ⟨g, e, hg⟩ := h
  exact ⟨g, e, hc.at hg (hs g hg)⟩

set_option maxRecDepth 20000 in
set_option maxHeartbeats 800000 in
theorem build_walk (fc B g cap : Nat) (L : List Sz) (w : World) (hfc : fc < 6) (hL : L.length ≤ 2000) (ho : w.ownsRow B 35 7 (.slice (some ⟨g, 0, none⟩) L.length cap) L.length (rows L)) :
    Calls Yba.prog 7 #[.int .i64 fc, .slice (some ⟨g, 0, none⟩) L.length cap] w fun e w' => e = .returned (.pointer (some ⟨w.heap.size, 0, none⟩)) ∧ ∃ A, w'.heap[w.heap.size]? = some (spRow A 0 0 0 false false) ∧
      (∀ j, j < 6 → j ≠ fc → OneBox w' (A j) j) ∧ w'.ownsRow (w.heap.size + 1) 35 7 (A fc) L.length (rows L) ∧ (∀ j, j < 6 → j ≠ fc → ∀ k, (A fc).ownBlock = some k → A j ≠ .slice (some ⟨k, 0, none⟩) 1 1) ∧ Chg (fun _ => False) w w' := by
  have HO : Hid (w.ownsRow B 35 7 (.slice (some ⟨g, 0, none⟩) L.length cap) L.length (rows L)) := ho
  clear ho
  go_enter Yba.func7, Yba.ntmps7
  go_wp2
  have hr0 : (w.alloc (Obj.cells #[Value.slice none 0 0, Value.slice none 0 0, Value.slice none 0 0, Value.slice none 0 0, Value.slice none 0 0, Value.slice none 0 0, Value.slice none 0 0, Value.slice none 0 0, Value.slice none 0 0, Value.slice none 0 0, Value.slice none 0 0, Value.slice none 0 0, Value.slice none 0 0, Value.slice none 0 0, Value.int IntKind.i64 0, Value.int IntKind.i64 0, Value.int IntKind.i64 0, Value.bool false, Value.bool false] 42)).heap[w.heap.size]? = some (spRow (fun _ => nilS) 0 0 0 false false) := heap_alloc_new w _
  have hc0 := Chg.alloc (fun _ => False) w (Obj.cells #[Value.slice none 0 0, Value.slice none 0 0, Value.slice none 0 0, Value.slice none 0 0, Value.slice none 0 0, Value.slice none 0 0, Value.slice none 0 0, Value.slice none 0 0, Value.slice none 0 0, Value.slice none 0 0, Value.slice none 0 0, Value.slice none 0 0, Value.slice none 0 0, Value.slice none 0 0, Value.int IntKind.i64 0, Value.int IntKind.i64 0, Value.int IntKind.i64 0, Value.bool false, Value.bool false] 42)
  generalize w.alloc (Obj.cells #[Value.slice none 0 0, Value.slice none 0 0, Value.slice none 0 0, Value.slice none 0 0, Value.slice none 0 0, Value.slice none 0 0, Value.slice none 0 0, Value.slice none 0 0, Value.slice none 0 0, Value.slice none 0 0, Value.slice none 0 0, Value.slice none 0 0, Value.slice none 0 0, Value.slice none 0 0, Value.int IntKind.i64 0, Value.int IntKind.i64 0, Value.int IntKind.i64 0, Value.bool false, Value.bool false] 42) = w1 at *
  have hs0 : w.heap.size < w1.heap.size := lt_of_block hr0
  go_loopg [6] 6 (fun gk i wr => ∃ (t : Nat) (A : Nat → Value), gk + t = 6 ∧ i = .int .i64 t ∧ wr.heap[w.heap.size]? = some (spRow A 0 0 0 false false) ∧ (∀ j, j < t → j ≠ fc → OneBox wr (A j) j) ∧ (fc < t → wr.ownsRow (w.heap.size + 1) 35 7 (A fc) L.length (rows L)) ∧ (fc < t → ∀ j, j < t → j ≠ fc → ∀ k, (A fc).ownBlock = some k → A j ≠ .slice (some ⟨k, 0, none⟩) 1 1) ∧ Chg (fun _ => False) w wr)
  case atStart => exact ⟨0, _, rfl, rfl, hr0, fun j hj => by omega, fun h => by omega, fun h => by omega, hc0⟩
  case round =>
    obtain ⟨t, A, hgt, rfl, hr, hb, hf, hds, hch⟩ := hrel
    have HDS : Hid (fc < t → ∀ j, j < t → j ≠ fc → ∀ k, (A fc).ownBlock = some k → A j ≠ .slice (some ⟨k, 0, none⟩) 1 1) := hds
    clear hds
    by_cases hlt : t < 6
    · have ct := sp_cell hr t hlt
      have ft := frozen_of_row _ w.heap.size (8 + t) _ _ hr
      have hsz : w.heap.size < wr.heap.size := lt_of_block hr
      by_cases hft : t = fc
      · subst hft
        have hcl := fun N => clone_walk B g cap L (wr.drewN N) hL ((Chg.drewN (fun _ => False) wr N).ownsRow (hch.ownsRow HO.out (fun _ _ h => h)) (fun _ _ h => h))
        go_wp2_with fail
        go_region_with (go_at_call 16; refine Calls.mono (hcl 1) ?_; rintro e w2 ⟨v', rfl, hown2, hch2⟩; obtain ⟨va, vc, rfl⟩ := len_of hown2; have hr2 := hch2.at hr (fun h => h); have ct2 := sp_cell hr2 t hlt; have ft2 := frozen_of_row _ w.heap.size (8 + t) _ _ hr2)
        have hc3 : Chg (fun i => i = w.heap.size) w2 (w2.setCell ⟨w.heap.size, 8 + t, none⟩ (.slice va L.length vc)) := Chg.setCell _ _ _ _ rfl
        have hr3 := sp_set hr2 t hlt (.slice va L.length vc)
        have hd := Chg.drewN (fun _ => False) wr 1
        clear ct ft ct2 ft2
        generalize w2.setCell ⟨w.heap.size, 8 + t, none⟩ (.slice va L.length vc) = w3 at *
        go_wp2
        go_roundg (6 - (t + 1))
        case measure => omega
        case rel =>
          refine ⟨t + 1, upd A t (.slice va L.length vc), by omega, by go_num, hr3, ?_, ?_, ?_, ?_⟩
          · intro j hj hjf
            rw [show upd A t (.slice va L.length vc) j = A j by simp [upd, hjf]]
            exact (((hb j (by omega) hjf).kept hd (fun _ _ h => h)).kept hch2 (fun _ _ h => h)).kept hc3 (fun g hg e => by subst e; rw [hr2] at hg; cases hg)
          · intro _
            rw [show upd A t (.slice va L.length vc) t = .slice va L.length vc by simp [upd]]
            have h1 := ownsRow_le hown2 (show w.heap.size + 1 ≤ (wr.drewN 1).heap.size from hsz)
            exact hc3.ownsRow h1 (fun k hk e => by have := (h1.lt k hk).1; omega)
          · intro _ j hj hjf k hk
            rw [show upd A t (.slice va L.length vc) t = .slice va L.length vc by simp [upd]] at hk
            rw [show upd A t (.slice va L.length vc) j = A j by simp [upd, hjf]]
            intro e
            obtain ⟨g', e', hg'⟩ := hb j (by omega) hjf
            rw [e'] at e
            have hgk : g' = k := by simpa using e
            have h1 := (hown2.lt k hk).1
            have h2 := lt_of_block hg'
            have h3 : (wr.drewN 1).heap.size = wr.heap.size := rfl
            omega
          · exact ((hch.trans hd).trans hch2).then hc3 (fun i hi => Or.inr (by omega))
      · have hne : ((t : Int) == (fc : Int)) = false := by rw [beq_eq_false_iff_ne]; omega
        go_wp2
        go_roundg (6 - (t + 1))
        case measure => omega
        case rel =>
          have hc2 : Chg (fun i => i = w.heap.size) wr (wr.setCell ⟨w.heap.size, 8 + t, none⟩ (.slice (some ⟨wr.heap.size, 0, none⟩) 1 1)) := Chg.setCell _ _ _ _ rfl
          have hr2 := sp_set hr t hlt (.slice (some ⟨wr.heap.size, 0, none⟩) 1 1)
          have hz2 : (wr.setCell ⟨w.heap.size, 8 + t, none⟩ (.slice (some ⟨wr.heap.size, 0, none⟩) 1 1)).heap.size = wr.heap.size := by simp
          generalize wr.setCell ⟨w.heap.size, 8 + t, none⟩ (.slice (some ⟨wr.heap.size, 0, none⟩) 1 1) = w2 at *
          have hn3 := heap_alloc_new w2 (.cells #[.int .i64 (-1), .int .i64 t, .int .i64 0, .int .i64 0, .int .i64 0, .int .i64 0, .int .i64 t] 35)
          have hc3 := Chg.alloc (fun _ => False) w2 (.cells #[.int .i64 (-1), .int .i64 t, .int .i64 0, .int .i64 0, .int .i64 0, .int .i64 0, .int .i64 t] 35)
          rw [hz2] at hn3
          generalize w2.alloc (.cells #[.int .i64 (-1), .int .i64 t, .int .i64 0, .int .i64 0, .int .i64 0, .int .i64 0, .int .i64 t] 35) = w3 at *
          refine ⟨t + 1, upd A t (.slice (some ⟨wr.heap.size, 0, none⟩) 1 1), by omega, by go_num, hc3.at hr2 (fun h => h), ?_, ?_, ?_, ?_⟩
          · intro j hj hjf
            by_cases e : j = t
            · subst e
              exact ⟨wr.heap.size, by simp [upd], hn3⟩
            · rw [show upd A t (.slice (some ⟨wr.heap.size, 0, none⟩) 1 1) j = A j by simp [upd, e]]
              exact ((hb j (by omega) hjf).kept hc2 (fun g hg e => by subst e; rw [hr] at hg; cases hg)).kept hc3 (fun _ _ h => h)
          · intro hlt2
            rw [show upd A t (.slice (some ⟨wr.heap.size, 0, none⟩) 1 1) fc = A fc by simp [upd]; intro e; omega]
            have hf' := hf (by omega)
            exact hc3.ownsRow (hc2.ownsRow hf' (fun k hk e => by have := (hf'.lt k hk).1; omega)) (fun _ _ h => h)
          · intro hlt2 j hj hjf k hk
            rw [show upd A t (.slice (some ⟨wr.heap.size, 0, none⟩) 1 1) fc = A fc by simp [upd]; intro e; omega] at hk
            by_cases e : j = t
            · subst e
              rw [show upd A j (.slice (some ⟨wr.heap.size, 0, none⟩) 1 1) j = .slice (some ⟨wr.heap.size, 0, none⟩) 1 1 by simp [upd]]
              intro e
              have hgk : wr.heap.size = k := by simpa using e
              have := ((hf (by omega)).lt k hk).2
              omega
            · rw [show upd A t (.slice (some ⟨wr.heap.size, 0, none⟩) 1 1) j = A j by simp [upd, e]]
              exact HDS.out (by omega) j (by omega) hjf k hk
          · exact (hch.then hc2 (fun i hi => Or.inr (by omega))).trans hc3
    · obtain rfl : t = 6 := by omega
      go_wp2
      go_ret
      exact ⟨rfl, A, hr, hb, hf hfc, HDS.out hfc, hch⟩
end Go.Proofs.Ybulkamqs
