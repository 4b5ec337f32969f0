/-
  OUR OWN. b1922a: what stands when in newPattern's (4) second region that draws.
-/
import Derived.Test.YbulkamtyPat
namespace Go.Proofs.Ybulkamty
open Go.RowKit
set_option linter.unusedVariables false
set_option linter.unusedSimpArgs false
/-- Where a hole's head and end are laid, in any order: what stands when. -/
structure I18 (hb : Nat) (w : World) (E : List Value) (r0 r1 z0 z1 c2 c3 c4 c5 c6 c7 c8 c9 : Value) (b : Nat → Bool) (x : Nat → Value) (w' : World) : Prop where
  ch : Chg (fun i => i = hb) w w'
  pure : ∀ k, k < 11 → k ≠ 9 → b k = true → x k = E.getD k undef
  row : w'.heap[hb]? = some (.cells #[if b 9 = true then r0 else z0, if b 11 = true then r1 else z1, c2, c3, c4, c5, c6, c7, c8, c9] 40 (0, 0))
section
variable {hb : Nat} {w : World} {E : List Value} {r0 r1 z0 z1 c2 c3 c4 c5 c6 c7 c8 c9 : Value} {b : Nat → Bool} {x : Nat → Value} {w' : World}
theorem I18.first (E : List Value) (r0 r1 : Value) (x : Nat → Value) (h : w.heap[hb]? = some (.cells #[z0, z1, c2, c3, c4, c5, c6, c7, c8, c9] 40 (0, 0))) : I18 hb w E r0 r1 z0 z1 c2 c3 c4 c5 c6 c7 c8 c9 (fun _ => false) x w.drew :=
  ⟨Chg.drew _ _, fun _ _ _ h => (by cases h), h⟩
theorem I18.world (h : I18 hb w E r0 r1 z0 z1 c2 c3 c4 c5 c6 c7 c8 c9 b x w') {w2 : World} (hc : Chg (fun _ => False) w' w2) : I18 hb w E r0 r1 z0 z1 c2 c3 c4 c5 c6 c7 c8 c9 b x w2 :=
  ⟨h.ch.trans (hc.mono (fun _ h => h.elim)), h.pure, hc.at h.row (fun h => h)⟩
theorem I18.step (h : I18 hb w E r0 r1 z0 z1 c2 c3 c4 c5 c6 c7 c8 c9 b x w') (i : Nat) (hi : i < 11) (h9 : i ≠ 9) : I18 hb w E r0 r1 z0 z1 c2 c3 c4 c5 c6 c7 c8 c9 (fun j => decide (j = i) || b j) (updv x i (E.getD i undef)) w' := by
  have e9 : decide (9 = i) = false := by simp; omega
  have e11 : decide (11 = i) = false := by simp; omega
  refine ⟨h.ch, fun k hk hk9 hb => ?_, ?_⟩
  · unfold updv
    by_cases e : k = i
    · rw [if_pos e, e]
    · rw [if_neg e]
      exact h.pure k hk hk9 (by simpa [e] using hb)
  · simp only [e9, e11, Bool.false_or]
    exact h.row
theorem I18.s9 (h : I18 hb w E r0 r1 z0 z1 c2 c3 c4 c5 c6 c7 c8 c9 b x w') : I18 hb w E r0 r1 z0 z1 c2 c3 c4 c5 c6 c7 c8 c9 (fun j => decide (j = 9) || b j) x (w'.setCell ⟨hb, 0, none⟩ r0) := by
  refine ⟨h.ch.trans (Chg.setCell _ _ _ _ rfl), fun k hk hk9 hb => h.pure k hk hk9 (by simpa [hk9] using hb), ?_⟩
  exact heap_setCell_same w' hb 0 _ _ r0 h.row
theorem I18.s11 (h : I18 hb w E r0 r1 z0 z1 c2 c3 c4 c5 c6 c7 c8 c9 b x w') : I18 hb w E r0 r1 z0 z1 c2 c3 c4 c5 c6 c7 c8 c9 (fun j => decide (j = 11) || b j) x (w'.setCell ⟨hb, 1, none⟩ r1) := by
  refine ⟨h.ch.trans (Chg.setCell _ _ _ _ rfl), fun k hk hk9 hb => h.pure k hk hk9 (by simpa [show k ≠ 11 by omega] using hb), ?_⟩
  exact heap_setCell_same w' hb 1 _ _ r1 h.row
end
end Go.Proofs.Ybulkamty
