/-
  OUR OWN. b1922a: laws for the walk of LawS1922CHoles (3).
-/
import Derived.Test.YbulkamtyRowT
namespace Go.Proofs.Ybulkamty
open Go.RowKit
set_option linter.unusedVariables false
set_option linter.unusedSimpArgs false
theorem WF.mono {n m n' m' : Nat} {L : List Sg} (h : WF n m L) (h1 : n ≤ n') (h2 : m ≤ m') (h3 : n' ≤ 100000) (h4 : m' ≤ 100000) : WF n' m' L :=
  ⟨h3, h4, h.hl, fun i s hs => by have := h.one i s hs; omega, h.ord⟩
theorem WF.push {n m : Nat} {L : List Sg} (h : WF n m L) (s : Sg) (hL : L.length < 300) (h1 : s.k ≤ 3 ∧ s.ts ≤ s.te ∧ s.te ≤ n ∧ s.vs ≤ s.ve ∧ s.ve ≤ m) (h2 : ∀ (i : Nat) (s' : Sg), L[i]? = some s' → s'.te ≤ s.ts) : WF n m (L ++ [s]) := by
  refine ⟨h.hn, h.hm, by simp; omega, fun i s' hs => ?_, fun i j a b hij ha hb => ?_⟩
  · rcases Nat.lt_or_ge i L.length with hi | hi
    · rw [List.getElem?_append_left hi] at hs; exact h.one i s' hs
    · rw [List.getElem?_append_right hi] at hs
      have : i - L.length = 0 := by have := lt_of_get hs; simp at this; omega
      rw [this] at hs; simp at hs; subst hs; exact h1
  · have hjl : j < L.length + 1 := by have := lt_of_get hb; simpa using this
    rw [List.getElem?_append_left (by omega)] at ha
    rcases Nat.lt_or_ge j L.length with hj | hj
    · rw [List.getElem?_append_left hj] at hb; exact h.ord i j a b hij ha hb
    · rw [List.getElem?_append_right hj] at hb
      have : j - L.length = 0 := by omega
      rw [this] at hb; simp at hb; subst hb; exact h2 i a ha
/-- What the law has built of the first t items. -/
structure Built (t : Nat) (T : List Int) (L : List Sg) (V : List Sp) : Prop where
  l : L.length = t
  n : T.length ≤ 21 * t
  m : V.length ≤ 2 * t
  byte : ∀ x ∈ T, 0 ≤ x ∧ x ≤ 255
  wf : WF T.length V.length L
theorem hl_pre (S : ByteArray) (V : List Sp) (L : List Sg) (t : Nat) : ∀ n, t ≤ n → ∃ M, hl S V L n = hl S V L t ++ M := by
  intro n
  induction n with
  | zero => intro h; obtain rfl : t = 0 := by omega
            exact ⟨[], by simp⟩
  | succ n ih =>
    intro h
    by_cases e : t = n + 1
    · exact ⟨[], by simp [e]⟩
    · obtain ⟨M, hM⟩ := ih (by omega)
      cases hn : L[n]? with
      | none => exact ⟨M, by rw [← hM]; simp [hl, hn]⟩
      | some s =>
        by_cases hk : s.k = 0
        · exact ⟨M, by rw [hl_lit hn hk, hM]⟩
        · exact ⟨M ++ [mkHo S V (ld L n) n s], by rw [hl_hole hn hk, hM, List.append_assoc]⟩
theorem hl_get {S : ByteArray} {V : List Sp} {L : List Sg} {t n : Nat} {s : Sg} (ht : t < n) (h : L[t]? = some s) (hk : s.k ≠ 0) : (hl S V L n)[(hl S V L t).length]? = some (mkHo S V (ld L t) t s) := by
  obtain ⟨M, e⟩ := hl_pre S V L (t + 1) n (by omega)
  rw [e, hl_hole h hk, List.append_assoc, List.getElem?_append_right (Nat.le_refl _), Nat.sub_self]
  rfl
end Go.Proofs.Ybulkamty
