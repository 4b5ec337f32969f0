/-
  OUR OWN. No project text. A frame of which only some slots are written: for the walks of single operations of a region that draws.
-/
import Derived.Test.YbulkamtyInv
namespace Go.Proofs.Ybulkamty
open Go.RowKit
set_option linter.unusedVariables false
/-- Outside the slots sl the frame is as it was. -/
structure Kept (sl : List Nat) (a0 a' : Act) : Prop where
  size : a'.tmps.size = a0.tmps.size
  defers : a'.defers = a0.defers
  out : ∀ d : Nat, d ∉ sl → a'.tmps[d]? = a0.tmps[d]?
theorem Kept.refl (sl : List Nat) (a : Act) : Kept sl a a := ⟨rfl, rfl, fun _ _ => rfl⟩
theorem Kept.get {sl : List Nat} {a0 a' : Act} (h : Kept sl a0 a') (d : Nat) (hd : d ∉ sl) : a'.tmps.getD d undef = a0.tmps.getD d undef := by
  have := h.out d hd
  simp only [Array.getD_eq_getD_getElem?, this]
theorem Kept.put {sl : List Nat} {a0 a' : Act} (h : Kept sl a0 a') (d : Nat) (hd : d ∈ sl) (v : Value) : Kept sl a0 (a'.put (some d) v) := by
  refine ⟨by simp [Act.put, h.size], by simp [Act.put, h.defers], fun e he => ?_⟩
  have hne : d ≠ e := fun x => he (x ▸ hd)
  simp only [Act.put]
  rw [Array.getElem?_setIfInBounds_ne hne]
  exact h.out e he
def slotsOf (sl : List Nat) (a : Act) : Nat → Value := fun k => a.tmps.getD (sl.getD k 0) undef
theorem put_get (a : Act) (d e : Nat) (v : Value) (hd : d < a.tmps.size) : (a.put (some d) v).tmps.getD e undef = if e = d then v else a.tmps.getD e undef := by
  simp only [Act.put, Array.getD_eq_getD_getElem?]
  by_cases h : e = d
  · subst h
    simp [hd]
  · rw [if_neg h, Array.getElem?_setIfInBounds_ne (fun x => h x.symm)]
def puts (x : Nat → Value) : Nat → List Nat → Act → Act
  | _, [], a => a
  | k, d :: sl, a => puts x (k + 1) sl (a.put (some d) (x k))
theorem puts_eq (a' : Act) (x : Nat → Value) : ∀ (sl : List Nat) (k : Nat) (a : Act), a.tmps.size = a'.tmps.size → a.defers = a'.defers → (∀ d : Nat, d ∉ sl → a.tmps[d]? = a'.tmps[d]?) → (∀ j, j < sl.length → x (k + j) = a'.tmps.getD (sl.getD j 0) undef) → puts x k sl a = a'
  | [], k, a, h1, h2, h3, h4 => by
    obtain ⟨t1, d1⟩ := a
    obtain ⟨t2, d2⟩ := a'
    have e1 : t1 = t2 := Array.ext_getElem? (fun d => h3 d (by simp))
    have e2 : d1 = d2 := h2
    subst e1 e2
    rfl
  | d :: sl, k, a, h1, h2, h3, h4 => by
    unfold puts
    refine puts_eq a' x sl (k + 1) _ (by simpa [Act.put] using h1) (by simpa [Act.put] using h2) (fun e he => ?_) (fun j hj => ?_)
    · simp only [Act.put]
      by_cases hde : d = e
      · subst hde
        have h0 := h4 0 (by simp)
        simp only [Nat.add_zero, List.getD_cons_zero] at h0
        by_cases hs : d < a.tmps.size
        · rw [Array.getElem?_setIfInBounds_self_of_lt hs, h0, Array.getD_eq_getD_getElem?]
          have hs' : d < a'.tmps.size := by omega
          rw [Array.getElem?_eq_getElem hs']
          rfl
        · rw [Array.getElem?_eq_none (by simp; omega), Array.getElem?_eq_none (by omega)]
      · rw [Array.getElem?_setIfInBounds_ne hde]
        exact h3 e (by simp; exact ⟨fun x => hde x.symm, he⟩)
    · have := h4 (j + 1) (by simpa using hj)
      rw [List.getD_cons_succ] at this
      rw [← this]
      congr 1
      omega
/-- The frame as it was, with what stands in the slots. -/
theorem Kept.eq {sl : List Nat} {a0 a' : Act} (h : Kept sl a0 a') : a' = puts (slotsOf sl a') 0 sl a0 :=
  (puts_eq a' _ sl 0 a0 h.size.symm h.defers.symm (fun d hd => (h.out d hd).symm) (fun j hj => by rw [Nat.zero_add]; rfl)).symm
end Go.Proofs.Ybulkamty
