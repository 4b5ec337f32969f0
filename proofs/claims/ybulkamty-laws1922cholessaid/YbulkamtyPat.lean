/-
  OUR OWN. b1922a: segments, spans and holes as rows; the plain function that lays the holes out; what stands when in newPattern's (4) two regions that draw.
-/
import Derived.Test.YbulkamtyLeaf
import Derived.Test.YbulkamtyInv
namespace Go.Proofs.Ybulkamty
open Go.RowKit
set_option linter.unusedVariables false
set_option linter.unusedSimpArgs false
structure Sg where
  k : Nat
  ts : Nat
  te : Nat
  vs : Nat
  ve : Nat
structure Sp where
  a : Nat
  b : Nat
structure Ho where
  hd : Int
  en : Int
  la : Nat
  lb : Nat
  fa : Nat
  fb : Nat
  va : Nat
  sg : Nat
  k : Nat
  cx : Bool
abbrev rowSg (s : Sg) : List Value := [.int .u8 s.k, .int .u8 0, .int .i32 s.ts, .int .i32 s.te, .int .i32 s.vs, .int .i32 s.ve]
abbrev rowSp (s : Sp) : List Value := [.int .i32 s.a, .int .i32 s.b]
abbrev rowHo (h : Ho) : List Value := [.int .u64 h.hd, .int .u64 h.en, .int .i32 h.la, .int .i32 h.lb, .int .i32 h.fa, .int .i32 h.fb, .int .i32 h.va, .int .i32 h.sg, .int .u8 h.k, .bool h.cx]
theorem lenSg (s : Sg) : (rowSg s).length = 6 := rfl
theorem lenSp (s : Sp) : (rowSp s).length = 2 := rfl
theorem lenHo (s : Ho) : (rowHo s).length = 10 := rfl
theorem info40 : (Yba.prog.info? 40).map (fun i => (i.zero, i.size, i.bytes)) = some (some (.agg #[.int .u64 0, .int .u64 0, .int .i32 0, .int .i32 0, .int .i32 0, .int .i32 0, .int .i32 0, .int .i32 0, .int .u8 0, .bool false]), 10, 48) := by kernel_rfl
def mkHo (S : ByteArray) (V : List Sp) (lead i : Nat) (s : Sg) : Ho :=
  ⟨if lead + 8 ≤ s.ts then w8 (fun j => bt S (lead + j)) else 0, if lead + 8 ≤ s.ts then w8 (fun j => bt S (s.ts - 8 + j)) else 0, lead, s.ts,
   if s.vs < s.ve then (V.getD s.vs ⟨0, 0⟩).a else 0, if s.vs < s.ve then (V.getD s.vs ⟨0, 0⟩).b else 0, s.vs, i, s.k, decide (s.vs + 1 < s.ve)⟩
/-- Where the literal text before the next hole begins, behind t segments. -/
def ld (L : List Sg) : Nat → Nat
  | 0 => 0
  | t + 1 => match L[t]? with
    | none => ld L t
    | some s => if s.k = 0 then ld L t else s.te
/-- The holes of the first t segments. -/
def hl (S : ByteArray) (V : List Sp) (L : List Sg) : Nat → List Ho
  | 0 => []
  | t + 1 => match L[t]? with
    | none => hl S V L t
    | some s => if s.k = 0 then hl S V L t else hl S V L t ++ [mkHo S V (ld L t) t s]
theorem ld_lit {L : List Sg} {t : Nat} {s : Sg} (h : L[t]? = some s) (hk : s.k = 0) : ld L (t + 1) = ld L t := by simp [ld, h, hk]
theorem ld_hole {L : List Sg} {t : Nat} {s : Sg} (h : L[t]? = some s) (hk : s.k ≠ 0) : ld L (t + 1) = s.te := by simp [ld, h, hk]
theorem hl_lit {S : ByteArray} {V : List Sp} {L : List Sg} {t : Nat} {s : Sg} (h : L[t]? = some s) (hk : s.k = 0) : hl S V L (t + 1) = hl S V L t := by simp [hl, h, hk]
theorem hl_hole {S : ByteArray} {V : List Sp} {L : List Sg} {t : Nat} {s : Sg} (h : L[t]? = some s) (hk : s.k ≠ 0) : hl S V L (t + 1) = hl S V L t ++ [mkHo S V (ld L t) t s] := by simp [hl, h, hk]
theorem hl_len {S : ByteArray} {V : List Sp} {L : List Sg} : ∀ t, (hl S V L t).length ≤ t
  | 0 => Nat.le_refl _
  | t + 1 => by
    have := hl_len (S := S) (V := V) (L := L) t
    unfold hl
    split
    · omega
    · split
      · omega
      · simp; omega
/-- Segments that follow one another in a text of n bytes, their variables among m. -/
structure WF (n m : Nat) (L : List Sg) : Prop where
  hn : n ≤ 100000
  hm : m ≤ 100000
  hl : L.length ≤ 300
  one : ∀ (i : Nat) (s : Sg), L[i]? = some s → s.k ≤ 3 ∧ s.ts ≤ s.te ∧ s.te ≤ n ∧ s.vs ≤ s.ve ∧ s.ve ≤ m
  ord : ∀ (i j : Nat) (s s' : Sg), i < j → L[i]? = some s → L[j]? = some s' → s.te ≤ s'.ts
theorem ld_is (L : List Sg) : ∀ t, ld L t = 0 ∨ ∃ i s, i < t ∧ L[i]? = some s ∧ ld L t = s.te
  | 0 => Or.inl rfl
  | t + 1 => by
    cases h : L[t]? with
    | none =>
      rcases ld_is L t with e | ⟨i, s, hi, hs, e⟩
      · exact Or.inl (by simp [ld, h, e])
      · exact Or.inr ⟨i, s, by omega, hs, by simp [ld, h, e]⟩
    | some s =>
      by_cases hk : s.k = 0
      · rw [ld_lit h hk]
        rcases ld_is L t with e | ⟨i, s, hi, hs, e⟩
        · exact Or.inl e
        · exact Or.inr ⟨i, s, by omega, hs, e⟩
      · rw [ld_hole h hk]
        exact Or.inr ⟨t, s, by omega, h, rfl⟩
theorem WF.ld_le {n m : Nat} {L : List Sg} (h : WF n m L) {t : Nat} {s : Sg} (hs : L[t]? = some s) : ld L t ≤ s.ts := by
  rcases ld_is L t with e | ⟨i, s', hi, hs', e⟩
  · omega
  · rw [e]; exact h.ord i t s' s hi hs' hs
theorem WF.ld_n {n m : Nat} {L : List Sg} (h : WF n m L) (t : Nat) : ld L t ≤ n := by
  rcases ld_is L t with e | ⟨i, s', hi, hs', e⟩
  · omega
  · rw [e]; exact (h.one i s' hs').2.2.1
abbrev patRow (S : ByteArray) (hv : Value) (a b : Nat) (vv sv : Value) : Obj := .cells #[.string S, hv, .int .i32 a, .int .i32 b, vv, sv] 37 (0, 0)

def updv (x : Nat → Value) (i : Nat) (v : Value) : Nat → Value := fun k => if k = i then v else x k
/-- Where a hole is made, in any order: what stands when. -/
structure I15 (w : World) (E : List Value) (R : Array Value) (b : Nat → Bool) (x : Nat → Value) (w' : World) : Prop where
  ch : Chg (fun _ => False) w w'
  pure : ∀ k, k < 17 → b k = true → x k = E.getD k undef
  b17 : b 17 = true → ∃ hb c0 c1 c2 c3 c4 c5 c6 c7 c8 c9, x 17 = .pointer (some ⟨hb, 0, none⟩) ∧ w.heap.size ≤ hb ∧ w'.heap[hb]? = some (.cells #[c0, c1, c2, c3, c4, c5, c6, c7, c8, c9] 40 (0, 0)) ∧ (b 18 = true → #[c0, c1, c2, c3, c4, c5, c6, c7, c8, c9] = R)
  d18 : b 18 = true → b 17 = true
theorem I15.first (w : World) (E : List Value) (R : Array Value) (x : Nat → Value) : I15 w E R (fun _ => false) x w.drew :=
  ⟨Chg.drew _ _, fun _ _ h => (by cases h), fun h => (by cases h), fun h => (by cases h)⟩
section
variable {w : World} {E : List Value} {R : Array Value} {b : Nat → Bool} {x : Nat → Value} {w' : World}
theorem I15.world (h : I15 w E R b x w') {w2 : World} (hc : Chg (fun _ => False) w' w2) : I15 w E R b x w2 := by
  refine ⟨h.ch.trans hc, h.pure, fun hb => ?_, h.d18⟩
  obtain ⟨hb, c0, c1, c2, c3, c4, c5, c6, c7, c8, c9, e, hl, hr, h6⟩ := h.b17 hb
  exact ⟨hb, c0, c1, c2, c3, c4, c5, c6, c7, c8, c9, e, hl, hc.at hr (fun h => h), h6⟩
theorem I15.step (h : I15 w E R b x w') (i : Nat) (hi : i < 17) : I15 w E R (fun j => decide (j = i) || b j) (updv x i (E.getD i undef)) w' := by
  have e17 : decide (17 = i) = false := by simp; omega
  have e18 : decide (18 = i) = false := by simp; omega
  refine ⟨h.ch, fun k hk hb => ?_, fun hb => ?_, fun hb => ?_⟩
  · unfold updv
    by_cases e : k = i
    · rw [if_pos e, e]
    · rw [if_neg e]
      exact h.pure k hk (by simpa [e] using hb)
  · simp only [e17, e18, Bool.false_or] at hb ⊢
    rw [show updv x i (E.getD i undef) 17 = x 17 by unfold updv; rw [if_neg (by omega)]]
    exact h.b17 hb
  · simp only [e17, e18, Bool.false_or] at hb ⊢
    exact h.d18 hb
theorem I15.made (h : I15 w E R b x w') (hk : b 17 = false) (c0 c1 c2 c3 c4 c5 c6 c7 c8 c9 : Value) : I15 w E R (fun j => decide (j = 17) || b j) (updv x 17 (.pointer (some ⟨w'.heap.size, 0, none⟩))) (w'.alloc (.cells #[c0, c1, c2, c3, c4, c5, c6, c7, c8, c9] 40)) := by
  have hw := h.world (Chg.alloc _ w' (.cells #[c0, c1, c2, c3, c4, c5, c6, c7, c8, c9] 40))
  refine ⟨hw.ch, fun k hk2 hb => ?_, fun _ => ⟨w'.heap.size, c0, c1, c2, c3, c4, c5, c6, c7, c8, c9, rfl, h.ch.size, heap_alloc_new w' _, fun h6 => ?_⟩, fun _ => rfl⟩
  · unfold updv
    rw [if_neg (by omega)]
    exact h.pure k hk2 (by simpa [show k ≠ 17 by omega] using hb)
  · have := h.d18 h6
    rw [hk] at this; cases this
theorem I15.stored {hb : Nat} (h : I15 w E R b x w') (hx : x 17 = .pointer (some ⟨hb, 0, none⟩)) (h17 : b 17 = true) {W : World} (hc : Chg (fun i => i = hb) w' W) {c0 c1 c2 c3 c4 c5 c6 c7 c8 c9 : Value} (hr : W.heap[hb]? = some (.cells #[c0, c1, c2, c3, c4, c5, c6, c7, c8, c9] 40 (0, 0))) (hR : #[c0, c1, c2, c3, c4, c5, c6, c7, c8, c9] = R) :
    I15 w E R (fun j => decide (j = 18) || b j) x W := by
  obtain ⟨hb', _, _, _, _, _, _, _, _, _, _, e, hl, _, _⟩ := h.b17 h17
  have e' : hb = hb' := by rw [hx] at e; simpa using e
  subst e'
  refine ⟨h.ch.then hc (fun i hi => Or.inr (by omega)), fun k hk hb => h.pure k hk (by simpa [show k ≠ 18 by omega] using hb), fun _ => ⟨hb, c0, c1, c2, c3, c4, c5, c6, c7, c8, c9, hx, hl, hr, fun _ => hR⟩, fun _ => h17⟩
end
theorem put10_head {w : World} {b : Nat} {a0 a1 a2 a3 a4 a5 a6 a7 a8 a9 : Value} {t : TypeId} (h : w.heap[b]? = some (.cells #[a0, a1, a2, a3, a4, a5, a6, a7, a8, a9] t (0, 0))) (v0 v1 v2 v3 v4 v5 v6 v7 v8 v9 : Value) {W : World}
    (hW : ((((((((((w.setCell ⟨b, 0, none⟩ v0).setCell ⟨b, 1, none⟩ v1).setCell ⟨b, 2, none⟩ v2).setCell ⟨b, 3, none⟩ v3).setCell ⟨b, 4, none⟩ v4).setCell ⟨b, 5, none⟩ v5).setCell ⟨b, 6, none⟩ v6).setCell ⟨b, 7, none⟩ v7).setCell ⟨b, 8, none⟩ v8).setCell ⟨b, 9, none⟩ v9) = W) :
    W.heap[b]? = some (.cells #[v0, v1, v2, v3, v4, v5, v6, v7, v8, v9] t (0, 0)) ∧ Chg (fun i => i = b) w W := by
  have c := Chg.rfl' (fun i => i = b) w
  have c := c.trans (Chg.setCell (fun i => i = b) w ⟨b, 0, none⟩ v0 rfl)
  have h : (w.setCell ⟨b, 0, none⟩ v0).heap[b]? = some (.cells #[v0, a1, a2, a3, a4, a5, a6, a7, a8, a9] t (0, 0)) := heap_setCell_same w b 0 _ _ v0 h
  generalize w.setCell ⟨b, 0, none⟩ v0 = w1 at *
  have c := c.trans (Chg.setCell (fun i => i = b) w1 ⟨b, 1, none⟩ v1 rfl)
  have h : (w1.setCell ⟨b, 1, none⟩ v1).heap[b]? = some (.cells #[v0, v1, a2, a3, a4, a5, a6, a7, a8, a9] t (0, 0)) := heap_setCell_same w1 b 1 _ _ v1 h
  generalize w1.setCell ⟨b, 1, none⟩ v1 = w2 at *
  have c := c.trans (Chg.setCell (fun i => i = b) w2 ⟨b, 2, none⟩ v2 rfl)
  have h : (w2.setCell ⟨b, 2, none⟩ v2).heap[b]? = some (.cells #[v0, v1, v2, a3, a4, a5, a6, a7, a8, a9] t (0, 0)) := heap_setCell_same w2 b 2 _ _ v2 h
  generalize w2.setCell ⟨b, 2, none⟩ v2 = w3 at *
  have c := c.trans (Chg.setCell (fun i => i = b) w3 ⟨b, 3, none⟩ v3 rfl)
  have h : (w3.setCell ⟨b, 3, none⟩ v3).heap[b]? = some (.cells #[v0, v1, v2, v3, a4, a5, a6, a7, a8, a9] t (0, 0)) := heap_setCell_same w3 b 3 _ _ v3 h
  generalize w3.setCell ⟨b, 3, none⟩ v3 = w4 at *
  have c := c.trans (Chg.setCell (fun i => i = b) w4 ⟨b, 4, none⟩ v4 rfl)
  have h : (w4.setCell ⟨b, 4, none⟩ v4).heap[b]? = some (.cells #[v0, v1, v2, v3, v4, a5, a6, a7, a8, a9] t (0, 0)) := heap_setCell_same w4 b 4 _ _ v4 h
  generalize w4.setCell ⟨b, 4, none⟩ v4 = w5 at *
  have c := c.trans (Chg.setCell (fun i => i = b) w5 ⟨b, 5, none⟩ v5 rfl)
  have h : (w5.setCell ⟨b, 5, none⟩ v5).heap[b]? = some (.cells #[v0, v1, v2, v3, v4, v5, a6, a7, a8, a9] t (0, 0)) := heap_setCell_same w5 b 5 _ _ v5 h
  generalize w5.setCell ⟨b, 5, none⟩ v5 = w6 at *
  have c := c.trans (Chg.setCell (fun i => i = b) w6 ⟨b, 6, none⟩ v6 rfl)
  have h : (w6.setCell ⟨b, 6, none⟩ v6).heap[b]? = some (.cells #[v0, v1, v2, v3, v4, v5, v6, a7, a8, a9] t (0, 0)) := heap_setCell_same w6 b 6 _ _ v6 h
  generalize w6.setCell ⟨b, 6, none⟩ v6 = w7 at *
  have c := c.trans (Chg.setCell (fun i => i = b) w7 ⟨b, 7, none⟩ v7 rfl)
  have h : (w7.setCell ⟨b, 7, none⟩ v7).heap[b]? = some (.cells #[v0, v1, v2, v3, v4, v5, v6, v7, a8, a9] t (0, 0)) := heap_setCell_same w7 b 7 _ _ v7 h
  generalize w7.setCell ⟨b, 7, none⟩ v7 = w8 at *
  have c := c.trans (Chg.setCell (fun i => i = b) w8 ⟨b, 8, none⟩ v8 rfl)
  have h : (w8.setCell ⟨b, 8, none⟩ v8).heap[b]? = some (.cells #[v0, v1, v2, v3, v4, v5, v6, v7, v8, a9] t (0, 0)) := heap_setCell_same w8 b 8 _ _ v8 h
  generalize w8.setCell ⟨b, 8, none⟩ v8 = w9 at *
  have c := c.trans (Chg.setCell (fun i => i = b) w9 ⟨b, 9, none⟩ v9 rfl)
  have h : (w9.setCell ⟨b, 9, none⟩ v9).heap[b]? = some (.cells #[v0, v1, v2, v3, v4, v5, v6, v7, v8, v9] t (0, 0)) := heap_setCell_same w9 b 9 _ _ v9 h
  subst hW
  exact ⟨h, c⟩
end Go.Proofs.Ybulkamty
