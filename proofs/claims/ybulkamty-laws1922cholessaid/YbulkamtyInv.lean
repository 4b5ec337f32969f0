/-
  OUR OWN. No project text. A region that draws its order, by an invariant: each operation is walked ONCE, from any state in which it may come, whatever came before it.
-/
import Derived.WalkKit
import Derived.Orders
namespace Go.Proofs.Ybulkamty
open Go.RowKit
set_option linter.unusedVariables false
section
variable {P : Program}
theorem upon_then {o : Oper} {a : Act} {K K' : Act → World → Prop} {Q : Exit → Act → World → Prop} {r : Result Next} (h : o.upon P a K (Exit.then K' Q) r) : o.upon P a K Q r := by
  cases r with
  | ok n w' =>
    cases n with
    | enter f args =>
      refine Calls.mono h ?_
      intro e w2 he
      cases e with
      | returned v => exact he
      | panicked c => exact he
      | outgrown => exact he
    | _ => exact h
  | halt x w' =>
    cases x <;> exact h
theorem wpOp_of_list {ops : Array Oper} {i : Nat} {o : Oper} {K : Act → World → Prop} {Q : Exit → Act → World → Prop} {a : Act} {w : World} (hi : ops[i]? = some o) (h : wpList P ops (Exit.then K Q) [o] a w) : wpOp P ops Q i K a w := by
  unfold wpOp
  simp only [hi]
  unfold wpList at h
  split at h
  · rename_i hw
    rw [if_pos hw]
    rcases h with h | ⟨h1, h2⟩
    · exact Or.inl (upon_then h)
    · exact Or.inr ⟨h1, h2⟩
  · rename_i hw
    rw [if_neg hw]
    exact h
/-- Each operation keeps the invariant, from any state in which it may come. -/
def StepsOk (P : Program) (ops : Array Oper) (Q : Exit → Act → World → Prop) (I : (Nat → Bool) → Act → World → Prop) : Nat → List Oper → Prop
  | _, [] => True
  | k, o :: l => (∀ b a w, I b a w → b k = false → (∀ e ∈ o.after, Region.binds .any e = true → b e.on = true) → wpList P ops (Exit.then (I (fun j => if j = k then true else b j)) Q) [o] a w) ∧ StepsOk P ops Q I (k + 1) l
theorem StepsOk.get {ops : Array Oper} {Q : Exit → Act → World → Prop} {I : (Nat → Bool) → Act → World → Prop} : ∀ {l : List Oper} {k : Nat}, StepsOk P ops Q I k l → ∀ {i : Nat} {o : Oper}, l[i]? = some o →
    ∀ b a w, I b a w → b (k + i) = false → (∀ e ∈ o.after, Region.binds .any e = true → b e.on = true) → wpList P ops (Exit.then (I (fun j => if j = k + i then true else b j)) Q) [o] a w
  | [], _, _, i, o, h => by simp at h
  | x :: l, k, hs, 0, o, h => by simp at h; subst h; exact hs.1
  | x :: l, k, hs, i + 1, o, h => by
    have := StepsOk.get hs.2 (i := i) (o := o) (by simpa using h)
    rwa [show k + 1 + i = k + (i + 1) by omega] at this
def bitsOf (listed : Array Bool) : Nat → Bool := fun k => listed.getD k false
theorem count_set {listed : Array Bool} {i : Nat} (hi : listed.getD i true = false) : (listed.setIfInBounds i true).toList.count false + 1 = listed.toList.count false := by
  obtain ⟨l⟩ := listed
  have hl : i < l.length := by
    rcases Nat.lt_or_ge i l.length with h | h
    · exact h
    · simp [Array.getD, Nat.not_lt.2 h] at hi
  have hv : l[i] = false := by simpa [Array.getD, hl] using hi
  rw [Array.toList_setIfInBounds]
  show (l.set i true).count false + 1 = l.count false
  rw [List.count_set hl]
  have : 0 < l.count false := by rw [List.count_pos_iff, ← hv]; exact List.getElem_mem hl
  simp [hv]; omega
theorem wpAny_inv {ops : Array Oper} {Q : Exit → Act → World → Prop} (I : (Nat → Bool) → Act → World → Prop) (hlex : ∀ (i : Nat) (o : Oper), ops[i]? = some o → ∀ e ∈ o.after, e.on < i)
    (hs : StepsOk P ops Q I 0 ops.toList) (hend : ∀ b a w, I b a w → (∀ k, k < ops.size → b k = true) → Q .normal a w) :
    ∀ (fuel : Nat) (listed : Array Bool) (a : Act) (w : World), listed.size = ops.size → listed.toList.count false ≤ fuel → I (bitsOf listed) a w → wpAny P .any ops Q fuel listed a w := by
  have hfin : ∀ (listed : Array Bool), listed.size = ops.size → Region.ready .any ops listed = [] → ∀ k, k < ops.size → bitsOf listed k = true := by
    intro listed hsz hr k
    induction k using Nat.strongRecOn with
    | ind k ih =>
      intro hk
      cases hb : bitsOf listed k with
      | true => rfl
      | false =>
        exfalso
        have hm : k ∈ Region.ready .any ops listed := by
          rw [mem_ready]
          refine ⟨?_, ops[k], Array.getElem?_eq_getElem hk, fun e he _ => ih e.on (hlex k _ (Array.getElem?_eq_getElem hk) e he) (Nat.lt_trans (hlex k _ (Array.getElem?_eq_getElem hk) e he) hk)⟩
          unfold bitsOf at hb
          have hk' : k < listed.size := by omega
          simp [Array.getD, hk'] at hb ⊢
          exact hb
        rw [hr] at hm
        cases hm
  intro fuel
  induction fuel with
  | zero =>
    intro listed a w hsz hc hI
    have hr : Region.ready .any ops listed = [] := by
      cases h : Region.ready .any ops listed with
      | nil => rfl
      | cons x l =>
        have : x ∈ Region.ready .any ops listed := by rw [h]; exact List.mem_cons_self ..
        rw [mem_ready] at this
        have := count_set this.1
        omega
    exact ⟨hr, hend _ _ _ hI (hfin listed hsz hr)⟩
  | succ fuel ih =>
    intro listed a w hsz hc hI
    refine ⟨fun hr => hend _ _ _ hI (hfin listed hsz hr), fun i hi => ?_⟩
    rw [mem_ready] at hi
    obtain ⟨h0, o, ho, hd⟩ := hi
    have hi' : i < listed.size := by
      rcases Nat.lt_or_ge i listed.size with h | h
      · exact h
      · simp [Array.getD, Nat.not_lt.2 h] at h0
    have hb : bitsOf listed (0 + i) = false := by
      unfold bitsOf
      rw [Nat.zero_add]
      simp [Array.getD, hi'] at h0 ⊢
      exact h0
    have hst := StepsOk.get hs (i := i) (o := o) (by simpa using ho) (bitsOf listed) a w hI hb hd
    refine wpOp_of_list ho ?_
    have e : (fun j => if j = 0 + i then true else bitsOf listed j) = bitsOf (listed.setIfInBounds i true) := by
      funext j
      unfold bitsOf
      rw [Nat.zero_add]
      by_cases h : j = i
      · subst h
        simp [Array.getD, hi']
      · rw [if_neg h, getD_set_ne false (fun e => h e.symm)]
    rw [e] at hst
    have hcc := count_set h0
    unfold wpList at hst ⊢
    split at hst
    · rename_i hw
      rw [if_pos hw]
      rcases hst with hst | hst
      · refine Or.inl ?_
        refine Oper.wp_mono (K := wpList P ops (Exit.then (I (bitsOf (listed.setIfInBounds i true))) Q) []) (fun a w h => ih _ a w (by simpa using hsz) (by omega) h) ?_
        exact upon_then (K' := I (bitsOf (listed.setIfInBounds i true))) hst
      · exact Or.inr hst
    · rename_i hw
      rw [if_neg hw]
      exact ih _ _ _ (by simpa using hsz) (by omega) hst
/-- A region that draws, by an invariant. -/
theorem region_inv {id : Nat} {ops : Array Oper} {Q : Exit → Act → World → Prop} {a : Act} {w : World} (I : (Nat → Bool) → Act → World → Prop) (hm : P.follows .mixedOrders = true) (hlex : ((List.range ops.size).all fun i => ((ops[i]?).map fun o => o.after.all fun e => decide (e.on < i)).getD true) = true)
    (h0 : I (fun _ => false) a w.drew) (hs : StepsOk P ops Q I 0 ops.toList) (hend : ∀ b a w, I b a w → (∀ k, k < ops.size → b k = true) → Q .normal a w) : (Code.region id ops true).wp P Q a w := by
  refine wp_region_any hm (wpAny_inv I ?_ hs hend _ _ _ _ (by simp) (by simp) ?_)
  · intro i o ho e he
    have hlt : i < ops.size := (Array.getElem?_eq_some_iff.1 ho).1
    have := List.all_eq_true.1 hlex i (List.mem_range.2 hlt)
    rw [ho] at this
    simp only [Option.map_some, Option.getD_some, Array.all_eq_true_iff_forall_mem] at this
    simpa using this e he
  · have : bitsOf (Array.replicate ops.size false) = fun _ => false := by
      funext k
      unfold bitsOf
      by_cases h : k < ops.size <;> simp [Array.getD, h]
    rw [this]
    exact h0
/-- The same, the invariant over the frame as it stood. -/
theorem region_inv_at {id : Nat} {ops : Array Oper} {Q : Exit → Act → World → Prop} {a : Act} {w : World} (I : Act → (Nat → Bool) → Act → World → Prop) (hm : P.follows .mixedOrders = true) (hlex : ((List.range ops.size).all fun i => ((ops[i]?).map fun o => o.after.all fun e => decide (e.on < i)).getD true) = true)
    (h0 : I a (fun _ => false) a w.drew) (hs : StepsOk P ops Q (I a) 0 ops.toList) (hend : ∀ b a' w', I a b a' w' → (∀ k, k < ops.size → b k = true) → Q .normal a' w') : (Code.region id ops true).wp P Q a w :=
  region_inv (I a) hm hlex h0 hs hend
end
end Go.Proofs.Ybulkamty
