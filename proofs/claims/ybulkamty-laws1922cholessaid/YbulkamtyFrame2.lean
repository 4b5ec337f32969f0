/-
  OUR OWN. b1922a: the two invariants of newPattern's (4) regions over a frame of which only some slots are written.
-/
import Derived.Test.YbulkamtyFrame
import Derived.Test.YbulkamtyPat2
namespace Go.Proofs.Ybulkamty
open Go.RowKit
set_option linter.unusedVariables false
theorem slots_put {sl : List Nat} {a' : Act} (hnd : ∀ k, k < sl.length → ∀ i, i < sl.length → sl.getD k 0 = sl.getD i 0 → k = i) (i : Nat) (hi : i < sl.length) (hs : sl.getD i 0 < a'.tmps.size) (v : Value) :
    ∀ k, k < sl.length → slotsOf sl (a'.put (some (sl.getD i 0)) v) k = updv (slotsOf sl a') i v k := by
  intro k hk
  unfold slotsOf updv
  rw [put_get _ _ _ _ hs]
  by_cases e : k = i
  · subst e; simp
  · rw [if_neg e, if_neg (fun h => e (hnd k hk i hi h))]
theorem I15.ext {w : World} {E : List Value} {R : Array Value} {b : Nat → Bool} {x x' : Nat → Value} {w' : World} (h : I15 w E R b x w') (hx : ∀ k, k < 18 → x' k = x k) : I15 w E R b x' w' := by
  refine ⟨h.ch, fun k hk hb => by rw [hx k (by omega)]; exact h.pure k hk hb, fun hb => ?_, h.d18⟩
  rw [hx 17 (by omega)]
  exact h.b17 hb
theorem I18.ext {hb : Nat} {w : World} {E : List Value} {r0 r1 z0 z1 c2 c3 c4 c5 c6 c7 c8 c9 : Value} {b : Nat → Bool} {x x' : Nat → Value} {w' : World} (h : I18 hb w E r0 r1 z0 z1 c2 c3 c4 c5 c6 c7 c8 c9 b x w') (hx : ∀ k, k < 11 → x' k = x k) : I18 hb w E r0 r1 z0 z1 c2 c3 c4 c5 c6 c7 c8 c9 b x' w' :=
  ⟨h.ch, fun k hk hk9 hb => by rw [hx k hk]; exact h.pure k hk hk9 hb, h.row⟩
def sl15 : List Nat := [48, 49, 50, 51, 52, 53, 54, 55, 56, 57, 58, 59, 60, 61, 62, 63, 64, 14]
theorem nd15 : ∀ k, k < sl15.length → ∀ i, i < sl15.length → sl15.getD k 0 = sl15.getD i 0 → k = i := by decide
theorem lt15 : ∀ k, k < sl15.length → sl15.getD k 0 < 116 := by decide
theorem mem15 : ∀ k, k < sl15.length → sl15.getD k 0 ∈ sl15 := by decide
theorem fin15 {w : World} {E : List Value} {R : Array Value} {b : Nat → Bool} {w' : World} {a0 a' : Act} (hK : Kept sl15 a0 a') (h116 : a0.tmps.size = 116) (hI : I15 w E R b (slotsOf sl15 a') w') (i : Nat) (hi : i < 17) :
    Kept sl15 a0 (a'.put (some (sl15.getD i 0)) (E.getD i undef)) ∧ I15 w E R (fun j => if j = i then true else b j) (slotsOf sl15 (a'.put (some (sl15.getD i 0)) (E.getD i undef))) w' := by
  have hi' : i < sl15.length := by show i < 18; omega
  refine ⟨hK.put _ (mem15 i hi') _, (by simp only [Bool.if_true_left]; exact (hI.step i hi).ext (fun k hk => slots_put nd15 i hi' (by rw [hK.size, h116]; exact lt15 i hi') _ k hk))⟩
theorem made15 {w : World} {E : List Value} {R : Array Value} {b : Nat → Bool} {w' : World} {a0 a' : Act} (hK : Kept sl15 a0 a') (h116 : a0.tmps.size = 116) (hI : I15 w E R b (slotsOf sl15 a') w') (hk : b 17 = false) (c0 c1 c2 c3 c4 c5 c6 c7 c8 c9 : Value) :
    Kept sl15 a0 (a'.put (some 14) (.pointer (some ⟨w'.heap.size, 0, none⟩))) ∧ I15 w E R (fun j => if j = 17 then true else b j) (slotsOf sl15 (a'.put (some 14) (.pointer (some ⟨w'.heap.size, 0, none⟩)))) (w'.alloc (.cells #[c0, c1, c2, c3, c4, c5, c6, c7, c8, c9] 40)) :=
  ⟨hK.put 14 (by decide) _, (by simp only [Bool.if_true_left]; exact (hI.made hk c0 c1 c2 c3 c4 c5 c6 c7 c8 c9).ext (fun k hk => slots_put nd15 17 (by decide) (by rw [hK.size, h116]; exact lt15 17 (by decide)) _ k hk))⟩
def sl18 : List Nat := [72, 73, 74, 75, 76, 77, 78, 79, 80, 1000, 81]
def kl18 : List Nat := [72, 73, 74, 75, 76, 77, 78, 79, 80, 81]
theorem nd18 : ∀ k, k < sl18.length → ∀ i, i < sl18.length → sl18.getD k 0 = sl18.getD i 0 → k = i := by decide
theorem lt18 : ∀ k, k < sl18.length → k ≠ 9 → sl18.getD k 0 < 116 := by decide
theorem mem18 : ∀ k, k < sl18.length → k ≠ 9 → sl18.getD k 0 ∈ kl18 := by decide
theorem fin18 {hb : Nat} {w : World} {E : List Value} {r0 r1 z0 z1 c2 c3 c4 c5 c6 c7 c8 c9 : Value} {b : Nat → Bool} {w' : World} {a0 a' : Act} (hK : Kept kl18 a0 a') (h116 : a0.tmps.size = 116) (hI : I18 hb w E r0 r1 z0 z1 c2 c3 c4 c5 c6 c7 c8 c9 b (slotsOf sl18 a') w') (i : Nat) (hi : i < 11) (h9 : i ≠ 9) :
    Kept kl18 a0 (a'.put (some (sl18.getD i 0)) (E.getD i undef)) ∧ I18 hb w E r0 r1 z0 z1 c2 c3 c4 c5 c6 c7 c8 c9 (fun j => if j = i then true else b j) (slotsOf sl18 (a'.put (some (sl18.getD i 0)) (E.getD i undef))) w' := by
  have hi' : i < sl18.length := by show i < 11; omega
  refine ⟨hK.put _ (mem18 i hi' h9) _, (by simp only [Bool.if_true_left]; exact (hI.step i hi h9).ext (fun k hk => slots_put nd18 i hi' (by rw [hK.size, h116]; exact lt18 i hi' h9) _ k hk))⟩
/-- A region that draws, by an invariant; of the frame as it stood only some facts are told. -/
theorem region_inv_op {P : Program} {id : Nat} {ops : Array Oper} {Q : Exit → Act → World → Prop} {a : Act} {w : World} (I : Act → (Nat → Bool) → Act → World → Prop) (facts : Act → Prop) (hm : P.follows .mixedOrders = true) (hlex : ((List.range ops.size).all fun i => ((ops[i]?).map fun o => o.after.all fun e => decide (e.on < i)).getD true) = true)
    (hf : facts a) (h0 : ∀ a0, I a0 (fun _ => false) a0 w.drew) (hs : ∀ a0, facts a0 → StepsOk P ops Q (I a0) 0 ops.toList) (hend : ∀ b a' w', I a b a' w' → (∀ k, k < ops.size → b k = true) → Q .normal a' w') : (Code.region id ops true).wp P Q a w :=
  region_inv_at I hm hlex (h0 a) (hs a hf) hend
end Go.Proofs.Ybulkamty
