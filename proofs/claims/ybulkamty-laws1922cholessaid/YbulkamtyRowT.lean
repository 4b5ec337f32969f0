/-
  OUR OWN. b1922a: rows of the call's own, told apart by their element types; string(text) of a row of bytes.
-/
import Derived.Test.YbulkamtyPat
import Derived.Laws.BytesString
import Derived.Laws.Cells
namespace Go.Proofs.Ybulkamty
open Go.RowKit
set_option linter.unusedVariables false
set_option linter.unusedSimpArgs false
/-- The blocks from B on that are rows of element type e. -/
def Own (e : TypeId) (B : Nat) (w : World) : Nat → Prop := fun i => B ≤ i ∧ ∃ cur, w.heap[i]? = some (.cells cur e (0, 0))
theorem own_step {e : TypeId} {B k n : Nat} {v : Value} {xs : List Value} {wa wb wc : World} (h : Chg (Own e B wa) wa wb) (ho : wb.ownsRow B e k v n xs) (hc : Chg (fun i => v.ownBlock = some i) wb wc) : Chg (Own e B wa) wa wc := by
  refine h.then hc (fun i hi => ?_)
  rcases Nat.lt_or_ge i wa.heap.size with hlt | hge
  · refine Or.inl ?_
    apply Classical.byContradiction
    intro hn
    have hb := h.block i hlt hn
    obtain ⟨cur, hcur⟩ := ownsRow_block ho hi
    exact hn ⟨(ho.lt i hi).1, cur, hb.symm.trans hcur⟩
  · exact Or.inr hge
theorem own_other {e e' : TypeId} {B B' k n : Nat} {v : Value} {xs : List Value} {wa wb : World} (h : Chg (Own e B wa) wa wb) (ho : wa.ownsRow B' e' k v n xs) (hne : e' ≠ e) : wb.ownsRow B' e' k v n xs :=
  h.ownsRow ho (fun i hi ⟨_, cur, hcur⟩ => by
    obtain ⟨cur', hcur'⟩ := ownsRow_block ho hi
    rw [hcur] at hcur'
    cases hcur'
    exact hne rfl)
theorem own_row {e e' : TypeId} {B b : Nat} {c : Array Value} {wa wb : World} (h : Chg (Own e B wa) wa wb) (hr : wa.heap[b]? = some (.cells c e' (0, 0))) (hne : e' ≠ e) : wb.heap[b]? = some (.cells c e' (0, 0)) :=
  h.at hr (fun ⟨_, cur, hcur⟩ => by
    rw [hr] at hcur
    cases hcur
    exact hne rfl)
theorem own_none {e : TypeId} {B : Nat} {w wa wb : World} (hw : Chg (fun _ => False) w wa) (h : Chg (Own e B wa) wa wb) (hB : w.heap.size ≤ B) : Chg (fun _ => False) w wb :=
  hw.then h (fun i hi => Or.inr (Nat.le_trans hB hi.1))
abbrev bytes (T : List Int) : List Value := T.map (Value.int .u8)
theorem info5 : (Yba.prog.info? 5).map (fun i => (i.zero, i.size, i.bytes)) = some (some (.int .u8 0), 1, 1) := by kernel_rfl
theorem info30 : (Yba.prog.info? 30).map (fun i => (i.zero, i.size, i.bytes)) = some (some (.agg #[.int .i32 0, .int .i32 0]), 2, 8) := by kernel_rfl
theorem info32 : (Yba.prog.info? 32).map (fun i => (i.zero, i.size, i.bytes)) = some (some (.agg #[.int .u8 0, .int .u8 0, .int .i32 0, .int .i32 0, .int .i32 0, .int .i32 0]), 6, 20) := by kernel_rfl
theorem bytes_at {T : List Int} {i : Nat} {x : Int} (h : T[i]? = some x) : (bytes T)[i]? = some (.int .u8 x) := by rw [List.getElem?_map, h]; rfl
theorem fold_data (T : List Int) : ∀ r : ByteArray, (T.foldl (fun r n => r.push (UInt8.ofNat n.toNat)) r).data.toList = r.data.toList ++ T.map (fun n => UInt8.ofNat n.toNat) := by
  induction T with
  | nil => intro r; simp
  | cons x T ih => intro r; simp [ih, ByteArray.data_push]
/-- 'string(text)' of a row of the call's own. -/
theorem conv_own {w : World} {B : Nat} {v : Value} {T : List Int} (ho : w.ownsRow B 5 1 v T.length (bytes T)) (hT : ∀ x ∈ T, 0 ≤ x ∧ x ≤ 255) :
    ∃ S : ByteArray, (convert 23 9 v).run Yba.prog w = .ok (.string S) w ∧ S.size = T.length ∧ ∀ i x, T[i]? = some x → bt S i = x := by
  have key : ∀ S : ByteArray, S.data.toList = T.map (fun n => UInt8.ofNat n.toNat) → S.size = T.length ∧ ∀ i x, T[i]? = some x → bt S i = x := by
    intro S hS
    refine ⟨?_, ?_⟩
    · have := congrArg List.length hS
      simpa using this
    · intro i x hx
      unfold bt
      have e : S.data[i]? = some (UInt8.ofNat x.toNat) := by
        rw [← Array.getElem?_toList, hS, List.getElem?_map, hx]
        rfl
      rw [e]
      have hb := hT x (List.mem_of_getElem? hx)
      simp only [Option.getD_some]
      rw [UInt8.toNat_ofNat']
      omega
  rcases ho.2 with ⟨rfl, h0⟩ | ⟨g, cap, cur, rfl, _⟩
  · have hT0 : T = [] := List.eq_nil_of_length_eq_zero h0
    subst hT0
    exact ⟨⟨#[]⟩, by kernel_rfl, (key ⟨#[]⟩ rfl).1, (key ⟨#[]⟩ rfl).2⟩
  · have hl := run_loadCells_list (P := Yba.prog) w ⟨g, 0, none⟩ (bytes T) (fun j u hj => ho.cells (g := g) rfl j u hj)
    rw [List.length_map] at hl
    have hr := run_bytesToString (P := Yba.prog) w ⟨g, 0, none⟩ T.length cap T hl
    obtain ⟨k1, k2⟩ := key _ ((fold_data T ByteArray.empty).trans (by simp))
    refine ⟨_, ?_, k1, k2⟩
    rw [run_convert_bytes_string w 23 9 5 _ _ _ Yba.underlying23 Yba.underlying5 Yba.underlying9]
    exact hr
end Go.Proofs.Ybulkamty
