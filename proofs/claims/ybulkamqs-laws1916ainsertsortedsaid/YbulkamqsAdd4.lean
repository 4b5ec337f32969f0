/-
  OUR OWN. b1916a: addPiece (9), all its cases in one contract.
-/
import Derived.Test.YbulkamqsAdd3
import Derived.Test.YbulkamqsCond
namespace Go.Proofs.Ybulkamqs
open Go.RowKit
set_option linter.unusedVariables false
theorem upd_self (A : Nat → Value) (t : Nat) : upd A t (A t) = A := by
  funext j; unfold upd; split
  · rename_i h; rw [h]
  · rfl
theorem add_walk (fc sb B : Nat) (L : List Sz) (A : Nat → Value) (r0 r1 r2 : Int) (ko turn : Bool) (p q : Bx) (hp : p.Ok) (hq : q.Ok) (w : World) (hfc : fc < 6) (hL : L.length ≤ 1024) (hB : sb < B) (hBw : B ≤ w.heap.size)
    (hr : w.heap[sb]? = some (spRow A r0 r1 r2 turn ko)) (hown : w.ownsRow B 35 7 (A fc) L.length (rows L)) :
    Calls Yba.prog 9 #[.pointer (some ⟨sb, 0, none⟩), .int .i64 fc, .agg (cells6 p), .agg (cells6 q)] w fun e w' => e = .returned (.tuple #[]) ∧ ∃ v M, w'.heap[sb]? = some (spRow (upd A fc v) r0 r1 r2 turn ko) ∧
      w'.ownsRow B 35 7 v M.length (rows M) ∧ M.length ≤ 1025 ∧ (cond p q r0 r1 r2 ko turn = false → M = L) ∧
      (cond p q r0 r1 r2 ko turn = true → ∃ c, c ≤ L.length ∧ M = L.take c ++ ⟨p, vol p⟩ :: L.drop c ∧ (∀ i s, i + 1 = c → L[i]? = some s → vol p ≤ s.n) ∧ (∀ i s, c ≤ i → L[i]? = some s → s.n < vol p)) ∧
      Chg (fun i => i = sb ∨ (A fc).ownBlock = some i) w w' := by
  cases hm : meetsB p q
  · refine Calls.mono (add_no fc sb A r0 r1 r2 ko turn p q hp hq w hr hm) ?_
    rintro e w' ⟨rfl, hc⟩
    have hcd : cond p q r0 r1 r2 ko turn = false := by simp [cond, hm]
    exact ⟨rfl, A fc, L, by rw [upd_self]; exact hc.at hr (fun h => h), hc.ownsRow hown (fun _ _ h => h), by omega, fun _ => rfl, fun h => (by rw [hcd] at h; cases h), hc.mono (fun _ h => h.elim)⟩
  · by_cases hf : ko = false ∨ fits p r0 r1 r2 turn = true
    · have hcd : cond p q r0 r1 r2 ko turn = true := by
        rcases hf with h | h <;> simp [cond, hm, h]
      refine Calls.mono (add_yes fc sb B L A r0 r1 r2 ko turn p q hp hq w hfc hL hB hBw hr hown hm hf) ?_
      rintro e w' ⟨rfl, v, c, hc, h1, h2, h3, h4, h5⟩
      have hl := hole_len L c ⟨p, vol p⟩ hc
      exact ⟨rfl, v, _, h1, by rw [hl]; exact h2, by rw [hl]; omega, fun h => (by rw [hcd] at h; cases h), fun _ => ⟨c, hc, rfl, h3, h4⟩, h5⟩
    · have hk : ko = true := by cases ko <;> simp_all
      have hft : fits p r0 r1 r2 turn = false := by cases h : fits p r0 r1 r2 turn <;> simp_all
      subst hk
      have hcd : cond p q r0 r1 r2 true turn = false := by simp [cond, hm, hft]
      refine Calls.mono (add_no2 fc sb A r0 r1 r2 turn p q hp hq w hr hm hft) ?_
      rintro e w' ⟨rfl, hc⟩
      exact ⟨rfl, A fc, L, by rw [upd_self]; exact hc.at hr (fun h => h), hc.ownsRow hown (fun _ _ h => h), by omega, fun _ => rfl, fun h => (by rw [hcd] at h; cases h), hc.mono (fun _ h => h.elim)⟩
end Go.Proofs.Ybulkamqs
