/-
  The proof of 'Rows.LawS1916AInsertSortedSaid'. The frame is the given shell's.
-/
import Derived.Test.YbulkamqsRows
import Derived.Test.YbulkamqsLaw
import Derived.WalkKit
import Derived.ProofKit
import Derived.OpenShut
import Derived.ShutString
import Derived.ChangeOld
import Derived.Below
import Derived.ChangeSlices
import Derived.Laws.IdiomArrays
namespace Go.Proofs.Ybulkamqs.lawS1916AInsertSorted
open Go.ChangeShapes Go.WideShapes Go.ChangeAt Go.RowKit
set_option linter.unusedVariables false

theorem own : ownKnob Yba.prog.godebug = none := by kernel_rfl
theorem laidOut : laidOutB Yba.prog = true := by kernel_rfl

section
variable {H : Type} {enc : TypeId × Value → H} {w : World} {base : Nat} {spare : Nat → Bool} {held : Bool} {r : Reach} {b0 : Nat}
/-- An int8 cell that came in. -/
theorem cell_i8 {fuel : Nat} {c : Value} {y : DataW H × List MemPlace} (h : DataW.trod enc Yba.prog w base spare held fuel 22 [c] = some y) : ∃ n, c = .int .i8 n ∧ Sm n := by
  obtain ⟨n, hc, _, hw⟩ := DataW.trod_int Yba.underlying22 h
  exact ⟨n, by simpa using hc, bounds_i8 hw⟩
theorem three_i8 {fuel : Nat} {c0 c1 c2 : Value} {x : DataW H × List MemPlace} (h : DataW.trod enc Yba.prog w base spare held fuel 23 [c0, c1, c2] = some x) :
    ∃ n0 n1 n2, c0 = .int .i8 n0 ∧ c1 = .int .i8 n1 ∧ c2 = .int .i8 n2 ∧ Sm n0 ∧ Sm n1 ∧ Sm n2 := by
  obtain ⟨y0, y1, y2, n, _, t0, t1, t2⟩ := trod_array3 Yba.underlying23 (by kernel_rfl) h
  obtain ⟨n0, e0, s0⟩ := cell_i8 t0
  obtain ⟨n1, e1, s1⟩ := cell_i8 t1
  obtain ⟨n2, e2, s2⟩ := cell_i8 t2
  exact ⟨n0, n1, n2, e0, e1, e2, s0, s1, s2⟩
theorem arr3_of {cs : Array Value} (h : cs.size = 3) : ∃ c0 c1 c2, cs = #[c0, c1, c2] := by
  obtain ⟨l⟩ := cs
  match l, h with
  | [c0, c1, c2], _ => exact ⟨c0, c1, c2, rfl⟩
theorem arr6_of {cs : Array Value} (h : cs.size = 6) : ∃ c0 c1 c2 c3 c4 c5, cs = #[c0, c1, c2, c3, c4, c5] := by
  obtain ⟨l⟩ := cs
  match l, h with
  | [c0, c1, c2, c3, c4, c5], _ => exact ⟨c0, c1, c2, c3, c4, c5, rfl⟩
theorem open_three {v : Value} {d : DataW H} {ps : List MemPlace} (hv : Value.okWide Yba.prog w r b0 23 v) (h : DataW.Trod enc Yba.prog w base spare held 23 v d ps) : ∃ n0 n1 n2, v = .agg #[.int .i8 n0, .int .i8 n1, .int .i8 n2] ∧ Sm n0 ∧ Sm n1 ∧ Sm n2 := by
  simp only [Value.okWide, Yba.underlying23] at hv
  obtain ⟨cs, rfl, hs, _⟩ := hv
  obtain ⟨c0, c1, c2, rfl⟩ := arr3_of (hs.trans (by kernel_rfl))
  obtain ⟨fuel, hf⟩ := h
  obtain ⟨n0, n1, n2, rfl, rfl, rfl, s0, s1, s2⟩ := three_i8 (c0 := c0) (c1 := c1) (c2 := c2) hf
  exact ⟨n0, n1, n2, rfl, s0, s1, s2⟩
theorem open_box {v : Value} {d : DataW H} {ps : List MemPlace} (hv : Value.okWide Yba.prog w r b0 25 v) (h : DataW.Trod enc Yba.prog w base spare held 25 v d ps) : ∃ p : Bx, v = .agg (cells8 p) ∧ p.Ok := by
  obtain ⟨cs, rfl, hs⟩ := okWide_struct Yba.underlying25 hv
  obtain ⟨c0, c1, c2, c3, c4, c5, rfl⟩ := arr6_of (hs.trans (by kernel_rfl))
  obtain ⟨fuel, hf⟩ := h
  obtain ⟨y0, y1, n, _, _, t0, t1⟩ := trod_struct2 Yba.underlying25 hf
  have hc : Yba.prog.cellsOf 23 = 3 := by kernel_rfl
  simp only [hc] at t0 t1
  obtain ⟨n0, n1, n2, rfl, rfl, rfl, s0, s1, s2⟩ := three_i8 (c0 := c0) (c1 := c1) (c2 := c2) t0
  obtain ⟨n3, n4, n5, rfl, rfl, rfl, s3, s4, s5⟩ := three_i8 (c0 := c3) (c1 := c4) (c2 := c5) t1
  exact ⟨⟨n0, n1, n2, n3, n4, n5⟩, rfl, ⟨s0, s1, s2, s3, s4, s5⟩⟩
end

/-! ### THE ROW's STEP -/
set_option maxRecDepth 100000 in
theorem lifted (os : Os) (started : os.Started) (H : Type) (enc : TypeId × Value → H) :
    ReturnsInHanded {} Yba.checked os 3 .any (Rows.lawS1916AInsertSortedSpec.pre6 enc Yba.prog Yba.f3 Rows.lawS1916AInsertSortedRow.domain false) (Rows.lawS1916AInsertSortedSpec.post enc Yba.prog Yba.f3 false true false false) := by
  refine returnsInHanded_of_change (C := Yba.checked) own started (by kernel_rfl) Yba.func3
    (ChangeSpec.witness6 (enc := enc) (C := Yba.checked) false ⟨#[], #[.int .u8 0, .agg #[.int .i8 0, .int .i8 0, .int .i8 0, .int .i8 0, .int .i8 0, .int .i8 0], .agg #[.int .i8 0, .int .i8 0, .int .i8 0, .int .i8 0, .int .i8 0, .int .i8 0], .slice none 0 0, .bool false, .bool false, .agg #[.int .i8 0, .int .i8 0, .int .i8 0]], []⟩ 8 (by kernel_rfl) (by kernel_rfl) (by kernel_rfl) (by kernel_rfl)) ?_
  intro W base args ds gs before hval0 hW hcnd _
  have hval : ∀ (j : Nat) t v, Yba.f3.params[j]? = some t → args[j]? = some v → Value.okWide Yba.prog W .any base t v := hval0
  have hW' := hW
  obtain ⟨p, q, hA0, hV, rfl, hfz, hnd⟩ := hW
  have hA : DataW.TrodAll enc Yba.prog W 0 (fun _ => true) true Yba.f3.params.toList args.toList ds p := hA0
  rw [Yba.params3] at hA hval
  obtain ⟨v0, vs0, d0, ds0, p0, q0, hargs, rfl, rfl, h0, r0⟩ := trodAll_cons hA
  obtain ⟨v1, vs1, d1, ds1, p1, q1, rfl, rfl, rfl, h1, r1⟩ := trodAll_cons r0
  obtain ⟨v2, vs2, d2, ds2, p2, q2, rfl, rfl, rfl, h2, r2⟩ := trodAll_cons r1
  obtain ⟨v3, vs3, d3, ds3, p3, q3, rfl, rfl, rfl, h3, r3⟩ := trodAll_cons r2
  obtain ⟨v4, vs4, d4, ds4, p4, q4, rfl, rfl, rfl, h4, r4⟩ := trodAll_cons r3
  obtain ⟨v5, vs5, d5, ds5, p5, q5, rfl, rfl, rfl, h5, r5⟩ := trodAll_cons r4
  obtain ⟨v6, vs6, d6, ds6, p6, q6, rfl, rfl, rfl, h6, r6⟩ := trodAll_cons r5
  obtain ⟨rfl, rfl, rfl⟩ := trodAll_nil r6
  obtain rfl : args = #[v0, v1, v2, v3, v4, v5, v6] := by cases args; simp_all
  obtain ⟨rfl, rfl⟩ := trodVars_none hV
  obtain ⟨a0, rfl, rfl, rfl, w0⟩ := open_int Yba.underlying5 (hval 0 5 v0 rfl rfl) h0
  obtain ⟨bp, rfl, okp⟩ := open_box (hval 1 25 v1 rfl rfl) h1
  obtain ⟨bq, rfl, okq⟩ := open_box (hval 2 25 v2 rfl rfl) h2
  obtain ⟨a3, len3, cap3, rfl⟩ := okWide_slice Yba.underlying26 (hval 3 26 v3 rfl rfl)
  obtain ⟨ko, rfl, rfl, rfl⟩ := open_bool Yba.underlying4 (hval 4 4 v4 rfl rfl) h4
  obtain ⟨turn, rfl, rfl, rfl⟩ := open_bool Yba.underlying4 (hval 5 4 v5 rfl rfl) h5
  obtain ⟨n0, n1, n2, rfl, s0, s1, s2⟩ := open_three (hval 6 23 v6 rfl rfl) h6
  have k1 := h1
  have lt1 : ∀ x ∈ p1, x.block < W.heap.size := by obtain ⟨m, hm⟩ := k1; exact DataW.trod_lt m _ _ _ hm
  have k2 := h2
  have lt2 : ∀ x ∈ p2, x.block < W.heap.size := by obtain ⟨m, hm⟩ := k2; exact DataW.trod_lt m _ _ _ hm
  have k3 := h3
  have lt3 : ∀ x ∈ p3, x.block < W.heap.size := by obtain ⟨m, hm⟩ := k3; exact DataW.trod_lt m _ _ _ hm
  have k6 := h6
  have lt6 : ∀ x ∈ p6, x.block < W.heap.size := by obtain ⟨m, hm⟩ := k6; exact DataW.trod_lt m _ _ _ hm
  have hb0 := bounds_u8 w0
  obtain ⟨face, rfl⟩ : ∃ face : Nat, a0 = (face : Int) := ⟨a0.toNat, by omega⟩
  obtain ⟨xs, wx⟩ : ∃ xs : Nat → Int, ∀ i, i < len3 → ∃ b off, a3 = some ⟨b, off, none⟩ ∧ W.cell? ⟨b, off + i, none⟩ = some (.int .i16 (xs i)) ∧ -32768 ≤ xs i ∧ xs i ≤ 32767 := by
    obtain ⟨fuel, hf⟩ := h3
    rcases open_ints Yba.underlying26 Yba.underlying28 (by kernel_rfl) hf with ⟨hcs, _⟩ | ⟨x, l, c, zs, hcs, _, hl, hm, hz, _, hcell, hwz⟩
    · simp [Value.cells] at hcs
      obtain ⟨rfl, rfl, rfl⟩ := hcs
      exact ⟨fun _ => 0, fun i hi => by omega⟩
    · simp [Value.cells] at hcs
      obtain ⟨rfl, rfl, rfl⟩ := hcs
      have hz' : len3 ≤ zs.length := by rw [hz]; split <;> omega
      refine ⟨fun i => zs.getD i 0, fun i hi => ?_⟩
      obtain ⟨b, off, spot⟩ := x
      have hspot : spot = none := by simpa [Addr.add] using World.cell?_spot (hcell 0 (by omega))
      subst hspot
      have hc := hcell i (by omega)
      refine ⟨b, off, rfl, by rw [← Go.WideShapes.add_plain]; exact hc, ?_⟩
      have hm : zs.getD i 0 ∈ zs := by
        rw [List.getD_eq_getElem?_getD, List.getElem?_eq_getElem (by omega)]
        exact List.getElem_mem _
      exact bounds_i16 (hwz _ hm)
  clear hA0 hval0
  refine (law_walk face (by omega) bp bq okp okq a3 len3 cap3 xs ko turn n0 n1 n2 s0 s1 s2 W wx).mono fun e W' ⟨he, hch⟩ => ?_
  have bel : Below W.heap.size W W' := hch.below (Nat.le_refl _) (fun k h => h.elim)
  subst he
  exact ⟨_, rfl, _, _, _, [], _, [], hW', trodAll_mk1 (shut_bool Yba.underlying4 _), (trodAll_cons_mk (shut_int Yba.underlying5 w0) (trodAll_cons_mk (Below.trod laidOut (by kernel_rfl) (of_decide_eq_true (by kernel_rfl)) k1 bel lt1) (trodAll_cons_mk (Below.trod laidOut (by kernel_rfl) (of_decide_eq_true (by kernel_rfl)) k2 bel lt2) (trodAll_cons_mk (Below.trod laidOut (by kernel_rfl) (of_decide_eq_true (by kernel_rfl)) k3 bel lt3) (trodAll_cons_mk (shut_bool Yba.underlying4 _) (trodAll_cons_mk (shut_bool Yba.underlying4 _) (trodAll_cons_mk (Below.trod laidOut (by kernel_rfl) (of_decide_eq_true (by kernel_rfl)) k6 bel lt6) trodAll_mk0))))))), rfl, bel.frame _, fun h => by cases h⟩

theorem over : Rows.lawS1916AInsertSortedRow.holds Yba.pinned (OpenSpec.ofChange Rows.lawS1916AInsertSortedSpec) :=
  OpenClaim.holds_of_wide 3 Yba.f3 rfl rfl rfl rfl rfl rfl rfl ⟨rfl, rfl, rfl, rfl, rfl⟩ rfl rfl rfl rfl rfl (by kernel_rfl) Yba.func3 (by kernel_rfl)
    (of_decide_eq_true (by kernel_rfl)) (by unfold Func.isWrapper; first | (rw [if_pos (by decide +kernel)]; kernel_rfl) | (rw [if_neg (by decide +kernel)]; exact ⟨rfl, rfl⟩))
    (fun os started H enc _ => lifted os started H enc)

end Go.Proofs.Ybulkamqs.lawS1916AInsertSorted
namespace Go.Proofs.Ybulkamqs
/-- THE STATEMENT -/
theorem insertSorted_holds : Rows.LawS1916AInsertSortedSaid := lawS1916AInsertSorted.over
end Go.Proofs.Ybulkamqs
