/-
  OUR OWN. b1916a: a box equals itself; slices.Equal (12) of two slices of the same elements.
-/
import Derived.Test.YbulkamqsLeaf
import Derived.Deep.DeepCutAuto
import Derived.Deep.CutBlock
import Derived.ChangeKeysEq
namespace Go.Proofs.Ybulkamqs
open Go.RowKit
set_option linter.unusedVariables false
set_option linter.unusedSimpArgs false
/-- A box and its size, as seven numbers. -/
structure Sz where
  b : Bx
  n : Int
abbrev cells7 (s : Sz) : Array Value := #[.int .i64 s.b.l0, .int .i64 s.b.l1, .int .i64 s.b.l2, .int .i64 s.b.h0, .int .i64 s.b.h1, .int .i64 s.b.h2, .int .i64 s.n]

/-! ### a value of numbers equals itself -/
section
variable {P : Program}
theorem eqFields_refl (d : Nat) (xs : Array Value) : ∀ fs : List Field, (∀ f ∈ fs, ∃ a, (∀ w, (part f.type xs f.offset).run P w = .ok a w) ∧ ∀ w, (Op.equalIn d f.type a a).run P w = .ok true w) → ∀ w, (Op.eqFields d xs xs fs).run P w = .ok true w
  | [], _, w => by simp [Op.eqFields]
  | f :: fs, h, w => by
    have ih := eqFields_refl d xs fs (fun g hg => h g (List.mem_cons_of_mem _ hg)) w
    obtain ⟨a, h1, h2⟩ := h f (List.mem_cons_self ..)
    unfold Op.eqFields
    split
    · simp [h1, h2, ih]
    · exact ih
theorem eqItems_refl (d : Nat) (e : TypeId) (c : Nat) (xs : Array Value) : ∀ is : List Nat, (∀ i ∈ is, ∃ a, (∀ w, (part e xs (i * c)).run P w = .ok a w) ∧ ∀ w, (Op.equalIn d e a a).run P w = .ok true w) → ∀ w, (Op.eqItems d e c xs xs is).run P w = .ok true w
  | [], _, w => by simp [Op.eqItems]
  | i :: is, h, w => by
    have ih := eqItems_refl d e c xs is (fun g hg => h g (List.mem_cons_of_mem _ hg)) w
    obtain ⟨a, h1, h2⟩ := h i (List.mem_cons_self ..)
    unfold Op.eqItems
    simp [h1, h2, ih]
end
theorem info3 : ∃ i, Yba.prog.info? 3 = some i := by
  have : (Yba.prog.info? 3).isSome = true := by kernel_rfl
  exact Option.isSome_iff_exists.1 this
theorem part3a (a b c : Int) (w : World) : (part 3 #[.int .i64 a, .int .i64 b, .int .i64 c] 0).run Yba.prog w = .ok (.int .i64 a) w := by kernel_rfl
theorem part3b (a b c : Int) (w : World) : (part 3 #[.int .i64 a, .int .i64 b, .int .i64 c] 1).run Yba.prog w = .ok (.int .i64 b) w := by kernel_rfl
theorem part3c (a b c : Int) (w : World) : (part 3 #[.int .i64 a, .int .i64 b, .int .i64 c] 2).run Yba.prog w = .ok (.int .i64 c) w := by kernel_rfl
theorem int_refl (d : Nat) (a : Int) (w : World) : (Op.equalIn (d + 1) 3 (.int .i64 a) (.int .i64 a)).run Yba.prog w = .ok true w := by
  rw [run_equalIn_int w d 3 .i64 .i64 a a Yba.underlying3]; simp
theorem arr_refl (d : Nat) (a b c : Int) (w : World) : (Op.equalIn (d + 2) 31 (.agg (arr3 a b c)) (.agg (arr3 a b c))).run Yba.prog w = .ok true w := by
  obtain ⟨i, hi⟩ := info3
  rw [run_equalIn_array w (d + 1) _ _ Yba.underlying31 hi]
  have hc : Yba.prog.cellsOf 3 = 1 := by kernel_rfl
  rw [hc]
  refine eqItems_refl (d + 1) 3 1 _ (List.range 3) ?_ w
  intro i hi
  have h3 : i < 3 := List.mem_range.1 hi
  match i, h3 with
  | 0, _ => exact ⟨_, part3a a b c, int_refl d a⟩
  | 1, _ => exact ⟨_, part3b a b c, int_refl d b⟩
  | 2, _ => exact ⟨_, part3c a b c, int_refl d c⟩
theorem part33a (p : Bx) (w : World) : (part 31 (cells6 p) 0).run Yba.prog w = .ok (.agg (arr3 p.l0 p.l1 p.l2)) w := by kernel_rfl
theorem part33b (p : Bx) (w : World) : (part 31 (cells6 p) 3).run Yba.prog w = .ok (.agg (arr3 p.h0 p.h1 p.h2)) w := by kernel_rfl
theorem cub_refl (d : Nat) (p : Bx) (w : World) : (Op.equalIn (d + 3) 33 (.agg (cells6 p)) (.agg (cells6 p))).run Yba.prog w = .ok true w := by
  rw [run_equalIn_struct w (d + 2) 33 _ _ (by kernel_rfl) (by kernel_rfl)]
  refine eqFields_refl (d + 2) _ _ ?_ w
  have e : (Yba.prog.fieldsOf 33).toList = [{ name := "lo", type := 31, offset := 0, embedded := false, tag := "", pkgPath := "example.com/torusweave/torusweave/mesh", byteOffset := 0 }, { name := "hi", type := 31, offset := 3, embedded := false, tag := "", pkgPath := "example.com/torusweave/torusweave/mesh", byteOffset := 24 }] := by kernel_rfl
  rw [e]
  intro f hf
  simp only [List.mem_cons, List.not_mem_nil, or_false] at hf
  rcases hf with rfl | rfl
  · exact ⟨_, part33a p, arr_refl d _ _ _⟩
  · exact ⟨_, part33b p, arr_refl d _ _ _⟩
theorem part35a (s : Sz) (w : World) : (part 33 (cells7 s) 0).run Yba.prog w = .ok (.agg (cells6 s.b)) w := by kernel_rfl
theorem part35b (s : Sz) (w : World) : (part 3 (cells7 s) 6).run Yba.prog w = .ok (.int .i64 s.n) w := by kernel_rfl
theorem neq_same (s : Sz) (w : World) : (binOp .neq 35 (.agg (cells7 s)) (.agg (cells7 s))).run Yba.prog w = .ok (.bool false) w := by
  rw [run_neq_struct]
  have : (Op.equalIn 10000 35 (.agg (cells7 s)) (.agg (cells7 s))).run Yba.prog w = .ok true w := by
    rw [run_equalIn_struct w 9999 35 _ _ (by kernel_rfl) (by kernel_rfl)]
    refine eqFields_refl 9999 _ _ ?_ w
    have e : (Yba.prog.fieldsOf 35).toList = [{ name := "box", type := 33, offset := 0, embedded := false, tag := "", pkgPath := "example.com/torusweave/torusweave/mesh", byteOffset := 0 }, { name := "nodes", type := 3, offset := 6, embedded := false, tag := "", pkgPath := "example.com/torusweave/torusweave/mesh", byteOffset := 48 }] := by kernel_rfl
    rw [e]
    intro f hf
    simp only [List.mem_cons, List.not_mem_nil, or_false] at hf
    rcases hf with rfl | rfl
    · exact ⟨_, part35a s, cub_refl 9996 _⟩
    · exact ⟨_, part35b s, int_refl 9998 _⟩
  rw [this]
  rfl
theorem neq3_same (a b c : Int) (w : World) : (binOp .neq 31 (.agg (arr3 a b c)) (.agg (arr3 a b c))).run Yba.prog w = .ok (.bool false) w := by
  rw [run_neq_struct, arr_refl 9998]
  rfl

/-- The seven cells of the i-th element of a row. -/
structure SzAt (w : World) (g i : Nat) (s : Sz) : Prop where
  c0 : w.cell? ⟨g, i * 7, none⟩ = some (.int .i64 s.b.l0)
  c1 : w.cell? ⟨g, i * 7 + 1, none⟩ = some (.int .i64 s.b.l1)
  c2 : w.cell? ⟨g, i * 7 + 2, none⟩ = some (.int .i64 s.b.l2)
  c3 : w.cell? ⟨g, i * 7 + 3, none⟩ = some (.int .i64 s.b.h0)
  c4 : w.cell? ⟨g, i * 7 + 4, none⟩ = some (.int .i64 s.b.h1)
  c5 : w.cell? ⟨g, i * 7 + 5, none⟩ = some (.int .i64 s.b.h2)
  c6 : w.cell? ⟨g, i * 7 + 6, none⟩ = some (.int .i64 s.n)

set_option maxRecDepth 20000 in
set_option maxHeartbeats 800000 in
/-- Two slices of the same elements: slices.Equal (12) says so. -/
theorem equal_walk (a1 a2 : Option Addr) (n c1 c2 : Nat) (xs : Nat → Sz) (w : World) (hn : n ≤ 2000) (h1 : ∀ i, i < n → ∃ g, a1 = some ⟨g, 0, none⟩ ∧ SzAt w g i (xs i)) (h2 : ∀ i, i < n → ∃ g, a2 = some ⟨g, 0, none⟩ ∧ SzAt w g i (xs i)) :
    Calls Yba.prog 12 #[.slice a1 n c1, .slice a2 n c2] w fun e w' => e = .returned (.bool true) ∧ ∃ N, w' = w.drewN N := by
  have H1 : Hid (∀ i, i < n → ∃ g, a1 = some ⟨g, 0, none⟩ ∧ SzAt w g i (xs i)) := h1
  have H2 : Hid (∀ i, i < n → ∃ g, a2 = some ⟨g, 0, none⟩ ∧ SzAt w g i (xs i)) := h2
  clear h1 h2
  go_enter Yba.func12, Yba.ntmps12
  go_wp2
  go_loopg [13] n (fun gk i wr => ∃ t N : Nat, gk + t = n ∧ i = .int .i64 t ∧ wr = w.drewN N)
  case atStart => exact ⟨0, 0, rfl, rfl, rfl⟩
  case round =>
    obtain ⟨t, N, hgt, rfl, rfl⟩ := hrel
    by_cases hlt : t < n
    · obtain ⟨g, rfl, d0, d1, d2, d3, d4, d5, d6⟩ := H1.out t hlt
      obtain ⟨g', rfl, f0, f1, f2, f3, f4, f5, f6⟩ := H2.out t hlt
      have hn1 : ∀ M, (Op.equalIn 9998 31 (.agg #[.int .i64 (xs t).b.l0, .int .i64 (xs t).b.l1, .int .i64 (xs t).b.l2]) (.agg #[.int .i64 (xs t).b.l0, .int .i64 (xs t).b.l1, .int .i64 (xs t).b.l2])).run Yba.prog (w.drewN M) = .ok true (w.drewN M) := fun M => arr_refl 9996 _ _ _ _
      have hn2 : ∀ M, (Op.equalIn 9998 31 (.agg #[.int .i64 (xs t).b.h0, .int .i64 (xs t).b.h1, .int .i64 (xs t).b.h2]) (.agg #[.int .i64 (xs t).b.h0, .int .i64 (xs t).b.h1, .int .i64 (xs t).b.h2])).run Yba.prog (w.drewN M) = .ok true (w.drewN M) := fun M => arr_refl 9996 _ _ _ _
      go_wp2
      go_quiet (fail)
      go_wp2
      go_roundg (n - (t + 1))
      case measure => omega
      case rel => exact ⟨t + 1, N + nq, by omega, by go_num, rfl⟩
    · obtain rfl : t = n := by omega
      go_wp2
      go_ret
      exact ⟨rfl, N, rfl⟩
end Go.Proofs.Ybulkamqs
