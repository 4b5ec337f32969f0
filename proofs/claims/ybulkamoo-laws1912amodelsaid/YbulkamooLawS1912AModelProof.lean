/-
  The proof of 'Rows.LawS1912AModelSaid'. The frame is the given shell's.
-/
import Derived.Test.YbulkamooRows
import Derived.Test.YbulkamooModel
import Derived.WalkKit
import Derived.ProofKit
import Derived.OpenShut
import Derived.ShutString
import Derived.ChangeOld
import Derived.Below
import Derived.Deep.SlicePairs
namespace Go.Proofs.Ybulkamoo.lawS1912AModel
open Go.ChangeShapes Go.WideShapes Go.ChangeAt Go.RowKit
open Go.ChangeMaps (open_string shut_string)
set_option linter.unusedVariables false

theorem own : ownKnob Yba.prog.godebug = none := by kernel_rfl
theorem laidOut : laidOutB Yba.prog = true := by kernel_rfl

/-- What the walk is told of the slice that came in: it is nil; or each of its elements is two cells, two small numbers. -/
def IsPairs (w : World) (a : Option Addr) (len : Nat) (op key : Nat → Int) : Prop :=
  (∀ i, (0 ≤ op i ∧ op i ≤ 255) ∧ 0 ≤ key i ∧ key i ≤ 255) ∧
  ∀ i, i < len → ∃ b off, a = some ⟨b, off, none⟩ ∧ w.cell? ⟨b, off + i * 2, none⟩ = some (.int .u8 (op i)) ∧ w.cell? ⟨b, off + i * 2 + 1, none⟩ = some (.int .u8 (key i))

/-- The numbers behind the cells. -/
theorem pairs_of {w : World} {a : Addr} {len : Nat} {V0 V1 : Nat → Value} (h : ∀ i, i < len → w.cell? (a.add (i * 2)) = some (V0 i) ∧ w.cell? (a.add (i * 2 + 1)) = some (V1 i) ∧ (∃ n, V0 i = .int .u8 n ∧ 0 ≤ n ∧ n ≤ 255) ∧ ∃ n, V1 i = .int .u8 n ∧ 0 ≤ n ∧ n ≤ 255) :
    ∃ op key : Nat → Int, IsPairs w (some a) len op key := by
  let num : Value → Int := fun v => match v with | .int .u8 n => if 0 ≤ n ∧ n ≤ 255 then n else 0 | _ => 0
  have hnum : ∀ v, 0 ≤ num v ∧ num v ≤ 255 := by
    intro v
    simp only [num]
    split
    · split
      · assumption
      · decide
    · decide
  have hval : ∀ n : Int, 0 ≤ n → n ≤ 255 → num (.int .u8 n) = n := fun n h1 h2 => by simp [num, h1, h2]
  refine ⟨fun i => num (V0 i), fun i => num (V1 i), fun i => ⟨hnum _, hnum _⟩, ?_⟩
  intro i hi
  obtain ⟨e0, e1, ⟨n0, q0, l0, u0⟩, n1, q1, l1, u1⟩ := h i hi
  obtain ⟨b, off, spot⟩ := a
  have hspot : spot = none := by
    have e00 := (h 0 (by omega)).1
    rw [Nat.zero_mul] at e00
    simpa [Addr.add] using World.cell?_spot e00
  subst hspot
  rw [Go.WideShapes.add_plain] at e0 e1
  refine ⟨b, off, rfl, ?_, ?_⟩
  · rw [e0]; simp only [q0, hval n0 l0 u0]
  · rw [← Nat.add_assoc] at e1; rw [e1]; simp only [q1, hval n1 l1 u1]

set_option maxRecDepth 20000 in
theorem walk (a0 : Int) (a1 : Option Addr) (len1 cap1 : Nat) (op key : Nat → Int) (w : World) (w0 : (Lit.int .i8 a0).wf = true) (w1 : IsPairs w a1 len1 op key) :
    Calls Yba.prog 3 #[.int .i8 a0, .slice a1 len1 cap1] w fun e w' => e = .returned (.bool true) ∧ Below w.heap.size w w' := by
  have hb := bounds_i8 w0
  by_cases hlen : len1 ≤ 1024
  · exact model_walk a0 a1 len1 cap1 op key w hb.1 hb.2 hlen w1.1 w1.2
  · have h1 : (1024 : Int) < (len1 : Int) := by omega
    go_enter Yba.func3, Yba.ntmps3
    go_wp2
    go_ret
    exact ⟨rfl, Below.refl _ _⟩

/-! ### THE ROW's STEP: WRITTEN OUT: LEAVE IT -/
set_option maxRecDepth 100000 in
theorem lifted (os : Os) (started : os.Started) (H : Type) (enc : TypeId × Value → H) :
    ReturnsInHanded {} Yba.checked os 3 .any (Rows.lawS1912AModelSpec.pre6 enc Yba.prog Yba.f3 Rows.lawS1912AModelRow.domain false) (Rows.lawS1912AModelSpec.post enc Yba.prog Yba.f3 false true false false) := by
  refine returnsInHanded_of_change (C := Yba.checked) own started (by kernel_rfl) Yba.func3
    (ChangeSpec.witness6 (enc := enc) (C := Yba.checked) false ⟨#[], #[.int .i8 0, .slice none 0 0], []⟩ 8 (by kernel_rfl) (by kernel_rfl) (by kernel_rfl) (by kernel_rfl)) ?_
  intro W base args ds gs before hval0 hW hcnd _
  have hval : ∀ (j : Nat) t v, Yba.f3.params[j]? = some t → args[j]? = some v → Value.okWide Yba.prog W .any base t v := hval0
  have hW' := hW
  obtain ⟨p, q, hA0, hV, rfl, hfz, hnd⟩ := hW
  have hA : DataW.TrodAll enc Yba.prog W 0 (fun _ => true) true Yba.f3.params.toList args.toList ds p := hA0
  rw [Yba.params3] at hA hval
  obtain ⟨v0, vs0, d0, ds0, p0, q0, hargs, rfl, rfl, h0, r0⟩ := trodAll_cons hA
  obtain ⟨v1, vs1, d1, ds1, p1, q1, rfl, rfl, rfl, h1, r1⟩ := trodAll_cons r0
  obtain ⟨rfl, rfl, rfl⟩ := trodAll_nil r1
  obtain rfl : args = #[v0, v1] := by cases args; simp_all
  obtain ⟨rfl, rfl⟩ := trodVars_none hV
  obtain ⟨a0, rfl, rfl, rfl, w0⟩ := open_int Yba.underlying22 (hval 0 22 v0 rfl rfl) h0
  obtain ⟨a1, len1, cap1, rfl⟩ := okWide_slice Yba.underlying23 (hval 1 23 v1 rfl rfl)
  have k1 := h1
  have lt1 : ∀ x ∈ p1, x.block < W.heap.size := by obtain ⟨m, hm⟩ := k1; exact DataW.trod_lt m _ _ _ hm
  obtain ⟨op, key, w1⟩ : ∃ op key, IsPairs W a1 len1 op key := by
    obtain ⟨fuel, hf⟩ := h1
    rcases Go.Deep.open_slice_pairs Yba.underlying23 Yba.underlying29 (by kernel_rfl) rfl rfl (by kernel_rfl) (by kernel_rfl) hf with ⟨hcs, _⟩ | ⟨x, l, c, m, n, V0, V1, D0, D1, P0, P1, hcs, _, hl, hm, hmm, _, hx⟩
    · simp [Value.cells] at hcs
      obtain ⟨rfl, rfl, rfl⟩ := hcs
      exact ⟨fun _ => 0, fun _ => 0, fun i => by simp, fun i hi => by omega⟩
    · simp [Value.cells] at hcs
      obtain ⟨rfl, rfl, rfl⟩ := hcs
      refine pairs_of (V0 := V0) (V1 := V1) fun i hi => ?_
      have hlm : len1 ≤ m := by rw [hmm]; split <;> omega
      obtain ⟨e0, e1, t0, t1⟩ := hx i (by omega)
      obtain ⟨n0, q0, _, b0⟩ := DataW.trod_int Yba.underlying5 t0
      obtain ⟨n1, q1, _, b1⟩ := DataW.trod_int Yba.underlying5 t1
      exact ⟨e0, e1, ⟨n0, by simpa using q0, bounds_u8 b0⟩, n1, by simpa using q1, bounds_u8 b1⟩
  clear hA0 hval0
  refine (walk a0 a1 len1 cap1 op key W w0 w1).mono fun e W' ⟨he, bel⟩ => ?_
  subst he
  exact ⟨_, rfl, _, _, _, [], _, [], hW', trodAll_mk1 (shut_bool Yba.underlying4 _), (trodAll_cons_mk (shut_int Yba.underlying22 w0) (trodAll_cons_mk (Below.trod laidOut (by kernel_rfl) (of_decide_eq_true (by kernel_rfl)) k1 bel lt1) trodAll_mk0)), rfl, bel.frame _, fun h => by cases h⟩

theorem over : Rows.lawS1912AModelRow.holds Yba.pinned (OpenSpec.ofChange Rows.lawS1912AModelSpec) :=
  OpenClaim.holds_of_wide 3 Yba.f3 rfl rfl rfl rfl rfl rfl rfl ⟨rfl, rfl, rfl, rfl, rfl⟩ rfl rfl rfl rfl rfl (by kernel_rfl) Yba.func3 (by kernel_rfl)
    (of_decide_eq_true (by kernel_rfl)) (by unfold Func.isWrapper; first | (rw [if_pos (by decide +kernel)]; kernel_rfl) | (rw [if_neg (by decide +kernel)]; exact ⟨rfl, rfl⟩))
    (fun os started H enc _ => lifted os started H enc)

end Go.Proofs.Ybulkamoo.lawS1912AModel
namespace Go.Proofs.Ybulkamoo
/-- THE STATEMENT -/
theorem model_holds : Rows.LawS1912AModelSaid := lawS1912AModel.over
end Go.Proofs.Ybulkamoo
