/-
  The proof of 'Rows.LawS1922CHolesSaid'. The frame is the given shell's.
-/
import Derived.Test.YbulkamtyRows
import Derived.Test.YbulkamtyLaw
import Derived.WalkKit
import Derived.ProofKit
import Derived.OpenShut
import Derived.ShutString
import Derived.ChangeOld
import Derived.Below
import Derived.Deep.Slices
import Derived.Deep.Strs
namespace Go.Proofs.Ybulkamty.lawS1922CHoles
open Go.ChangeShapes Go.WideShapes Go.ChangeAt Go.RowKit
set_option linter.unusedVariables false

theorem own : ownKnob Yba.prog.godebug = none := by kernel_rfl
theorem laidOut : laidOutB Yba.prog = true := by kernel_rfl

/-- What the walk is told of the slice that came in: each of its elements is three bytes. -/
def IsItems (w : World) (a : Option Addr) (len : Nat) (kk ln vr : Nat → Nat) : Prop :=
  ∀ i, i < len → ∃ b off, a = some ⟨b, off, none⟩ ∧ w.cell? ⟨b, off + i * 3, none⟩ = some (.int .u8 (kk i)) ∧ w.cell? ⟨b, off + i * 3 + 1, none⟩ = some (.int .u8 (ln i)) ∧ w.cell? ⟨b, off + i * 3 + 2, none⟩ = some (.int .u8 (vr i)) ∧ kk i < 256 ∧ ln i < 256 ∧ vr i < 256

theorem items_of {w : World} {a : Addr} {len : Nat} (h : ∀ i, i < len → ∃ n0 n1 n2 : Int, w.cell? (a.add (i * 3)) = some (.int .u8 n0) ∧ w.cell? (a.add (i * 3 + 1)) = some (.int .u8 n1) ∧ w.cell? (a.add (i * 3 + 2)) = some (.int .u8 n2) ∧ (0 ≤ n0 ∧ n0 ≤ 255) ∧ (0 ≤ n1 ∧ n1 ≤ 255) ∧ 0 ≤ n2 ∧ n2 ≤ 255) :
    ∃ kk ln vr, IsItems w (some a) len kk ln vr := by
  have h' : ∀ i, ∃ q : Int × Int × Int, i < len → w.cell? (a.add (i * 3)) = some (.int .u8 q.1) ∧ w.cell? (a.add (i * 3 + 1)) = some (.int .u8 q.2.1) ∧ w.cell? (a.add (i * 3 + 2)) = some (.int .u8 q.2.2) ∧ (0 ≤ q.1 ∧ q.1 ≤ 255) ∧ (0 ≤ q.2.1 ∧ q.2.1 ≤ 255) ∧ 0 ≤ q.2.2 ∧ q.2.2 ≤ 255 := by
    intro i
    by_cases hi : i < len
    · obtain ⟨n0, n1, n2, hq⟩ := h i hi
      exact ⟨(n0, n1, n2), fun _ => hq⟩
    · exact ⟨(0, 0, 0), fun h => absurd h hi⟩
  obtain ⟨q, hq⟩ := Classical.skolem.1 h'
  refine ⟨fun i => (q i).1.toNat, fun i => (q i).2.1.toNat, fun i => (q i).2.2.toNat, fun i hi => ?_⟩
  obtain ⟨e0, e1, e2, b0, b1, b2⟩ := hq i hi
  obtain ⟨b, off, spot⟩ := a
  have hspot : spot = none := by
    have e00 := (hq 0 (by omega)).1
    rw [Nat.zero_mul] at e00
    simpa [Addr.add] using World.cell?_spot e00
  subst hspot
  rw [Go.WideShapes.add_plain] at e0 e1 e2
  refine ⟨b, off, rfl, ?_, ?_, ?_, by show (q i).1.toNat < 256; omega, by show (q i).2.1.toNat < 256; omega, by show (q i).2.2.toNat < 256; omega⟩
  · rw [e0, Int.toNat_of_nonneg b0.1]
  · rw [← Nat.add_assoc] at e1; rw [e1, Int.toNat_of_nonneg b1.1]
  · rw [← Nat.add_assoc] at e2; rw [e2, Int.toNat_of_nonneg b2.1]

set_option maxRecDepth 100000 in
theorem lifted (os : Os) (started : os.Started) (H : Type) (enc : TypeId × Value → H) :
    ReturnsInHanded {} Yba.checked os 3 .any (Rows.lawS1922CHolesSpec.pre6 enc Yba.prog Yba.f3 Rows.lawS1922CHolesRow.domain false) (Rows.lawS1922CHolesSpec.post enc Yba.prog Yba.f3 false true false false) := by
  refine returnsInHanded_of_change (C := Yba.checked) own started (by kernel_rfl) Yba.func3
    (ChangeSpec.witness6 (enc := enc) (C := Yba.checked) false ⟨#[], #[.slice none 0 0], []⟩ 8 (by kernel_rfl) (by kernel_rfl) (by kernel_rfl) (by kernel_rfl)) ?_
  intro W base args ds gs before hval0 hW hcnd _
  have hval : ∀ (j : Nat) t v, Yba.f3.params[j]? = some t → args[j]? = some v → Value.okWide Yba.prog W .any base t v := hval0
  have hW' := hW
  obtain ⟨p, q, hA0, hV, rfl, hfz, hnd⟩ := hW
  have hA : DataW.TrodAll enc Yba.prog W 0 (fun _ => true) true Yba.f3.params.toList args.toList ds p := hA0
  rw [Yba.params3] at hA hval
  obtain ⟨v0, vs0, d0, ds0, p0, q0, hargs, rfl, rfl, h0, r0⟩ := trodAll_cons hA
  obtain ⟨rfl, rfl, rfl⟩ := trodAll_nil r0
  obtain rfl : args = #[v0] := by cases args; simp_all
  obtain ⟨rfl, rfl⟩ := trodVars_none hV
  obtain ⟨a0, len0, cap0, rfl⟩ := okWide_slice Yba.underlying22 (hval 0 22 v0 rfl rfl)
  have k0 := h0
  have lt0 : ∀ x ∈ p0, x.block < W.heap.size := by obtain ⟨m, hm⟩ := k0; exact DataW.trod_lt m _ _ _ hm
  obtain ⟨kk, ln, vr, w0⟩ : ∃ kk ln vr, IsItems W a0 len0 kk ln vr := by
    obtain ⟨fuel, hf⟩ := h0
    rcases Go.Deep.open_slice Yba.underlying22 hf with ⟨hcs, _⟩ | ⟨x, l, c, m, n, D, Pl, hcs, _, hl, hm, hmm, _, hx⟩
    · simp [Value.cells] at hcs
      obtain ⟨rfl, rfl, rfl⟩ := hcs
      exact ⟨fun _ => 0, fun _ => 0, fun _ => 0, fun i hi => by omega⟩
    · simp [Value.cells] at hcs
      obtain ⟨rfl, rfl, rfl⟩ := hcs
      have hlm : len0 ≤ m := by rw [hmm]; split <;> omega
      refine items_of fun i hi => ?_
      obtain ⟨cs', h1, h2⟩ := hx i (by omega)
      have ce : Yba.prog.cellsOf 27 = 3 := by kernel_rfl
      have c5 : Yba.prog.cellsOf 5 = 1 := by kernel_rfl
      rw [ce] at h1
      obtain ⟨_, hlen, hcell⟩ := World.cells?_some h1
      obtain ⟨y0, y1, y2, n', _, _, t0, t1, t2⟩ := Go.Deep.trod_struct3 Yba.underlying27 h2
      simp only [c5] at t0 t1 t2
      match cs', hlen with
      | [u0, u1, u2], _ =>
        obtain ⟨n0, q0, _, b0⟩ := DataW.trod_int Yba.underlying5 t0
        obtain ⟨n1, q1, _, b1⟩ := DataW.trod_int Yba.underlying5 t1
        obtain ⟨n2, q2, _, b2⟩ := DataW.trod_int Yba.underlying5 t2
        have e0 := hcell 0 (by omega)
        have e1 := hcell 1 (by omega)
        have e2 := hcell 2 (by omega)
        rw [Go.Deep.add_add] at e0 e1 e2
        simp at q0 q1 q2
        subst q0 q1 q2
        exact ⟨n0, n1, n2, by simpa using e0, by simpa using e1, by simpa using e2, bounds_u8 b0, bounds_u8 b1, bounds_u8 b2⟩
  clear hA0 hval0
  refine (holes_walk a0 len0 cap0 kk ln vr W w0).mono fun e W' ⟨he, hch⟩ => ?_
  have bel : Below W.heap.size W W' := hch.below (Nat.le_refl _) (fun k h => h.elim)
  subst he
  exact ⟨_, rfl, _, _, _, [], _, [], hW', trodAll_mk1 (shut_bool Yba.underlying4 _), (trodAll_cons_mk (Below.trod laidOut (by kernel_rfl) (of_decide_eq_true (by kernel_rfl)) k0 bel lt0) trodAll_mk0), rfl, bel.frame _, fun h => by cases h⟩

theorem over : Rows.lawS1922CHolesRow.holds Yba.pinned (OpenSpec.ofChange Rows.lawS1922CHolesSpec) :=
  OpenClaim.holds_of_wide 3 Yba.f3 rfl rfl rfl rfl rfl rfl rfl ⟨rfl, rfl, rfl, rfl, rfl⟩ rfl rfl rfl rfl rfl (by kernel_rfl) Yba.func3 (by kernel_rfl)
    (of_decide_eq_true (by kernel_rfl)) (by unfold Func.isWrapper; first | (rw [if_pos (by decide +kernel)]; kernel_rfl) | (rw [if_neg (by decide +kernel)]; exact ⟨rfl, rfl⟩))
    (fun os started H enc _ => lifted os started H enc)

end Go.Proofs.Ybulkamty.lawS1922CHoles
namespace Go.Proofs.Ybulkamty
/-- THE STATEMENT -/
theorem holes_holds : Rows.LawS1922CHolesSaid := lawS1922CHoles.over
end Go.Proofs.Ybulkamty
