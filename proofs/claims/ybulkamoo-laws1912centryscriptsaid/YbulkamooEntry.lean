/-
  OUR OWN. '(*Batch).entry' (function 13): what it does to the batch's memory, way by way; then one contract.
-/
import Derived.Test.YbulkamooRows
import Derived.Test.YbulkamooBase
namespace Go.Proofs.Ybulkamoo
open Go.RowKit
set_option linter.unusedVariables false

theorem blk_alloc {w : World} {b : Nat} {o : Obj} (h : w.heap[b]? = some o) (o' : Obj) : (w.alloc o').heap[b]? = some o := (Below.heap_alloc w o' b (lt_of_block h)).trans h
theorem blk_set {w : World} {g i : Nat} {cs : Array Value} {t : TypeId} {v : Value} (hg : w.heap[g]? = some (.cells cs t (0, 0))) : (w.setCell ⟨g, i, none⟩ v).heap[g]? = some (.cells (cs.setIfInBounds i v) t (0, 0)) := heap_setCell_same w g i cs t v hg
theorem blk_set_other {w : World} {g b i : Nat} {o : Obj} {v : Value} (hg : w.heap[g]? = some o) (hb : g ≠ b) : (w.setCell ⟨b, i, none⟩ v).heap[g]? = some o := (heap_setCell_other w ⟨b, i, none⟩ g v hb).trans hg
theorem ownsRow_other {w : World} {base : Nat} {e : TypeId} {size : Nat} {v : Value} {n : Nat} {xs : List Value} (h : w.ownsRow base e size v n xs) {b i : Nat} {o : Obj} (hb : w.heap[b]? = some o) (ho : ∀ c, o ≠ .cells c e (0, 0)) (u : Value) : (w.setCell ⟨b, i, none⟩ u).ownsRow base e size v n xs :=
  (Chg.setCell (fun i => i = b) w ⟨b, i, none⟩ u rfl).ownsRow h (fun k hk e => by
    obtain ⟨cur, hc⟩ := ownsRow_block h hk
    subst e
    rw [hb] at hc
    simp only [Option.some.injEq] at hc
    exact ho _ hc)

theorem Yba.info61 : (Yba.prog.info? 61).map (fun i => (i.zero, i.size, i.bytes)) = some (some (.agg #[.string ⟨#[]⟩, .slice none 0 0, .bool false, .bool false]), 4, 48) := by kernel_rfl
theorem mapNil (w : World) (r : Option Nat) : (binOp .eql 52 (.map r) (.map none)).run Yba.prog w = .ok (.bool r.isNone) w := run_eql_map_nil w _ _ _ r Yba.underlying52
abbrev oneEnt (k : ByteArray) : List Value := [.string k, .slice none 0 0, .bool false, .bool false]

/-- 'b.entries = append(b.entries, entry{key: k})': the append, as one step of a region that draws. -/
theorem step_grow {ops : Array Oper} {o : Oper} {a : Act} {w : World} {K : Act → World → Prop} {Q : Exit → Act → World → Prop} {E : Prop}
    (hg : o.guard = none) (s x : Operand) (hop : o.op = Op.call { callee := Callee.builtin Builtin.append, args := #[s, x], argTypes := #[51, 51] })
    (bb : Nat) (ev mv : Value) (n : Nat) (xs : List Value) (k : ByteArray) (hb : Nat) (hs : a.eval s = ev) (hx : a.eval x = .slice (some ⟨hb, 0, none⟩) 1 1)
    (blk : w.heap[bb]? = some (.cells #[ev, .int .i64 0, mv] 54 (0, 0))) (hown : w.ownsRow (bb + 1) 61 4 ev n xs) (hnew : w.heap[hb]? = some (.cells (oneEnt k).toArray 61 (0, 0))) (hn : n ≤ 2000)
    (hK : ∀ g cap w', w'.ownsRow (bb + 1) 61 4 (.slice (some ⟨g, 0, none⟩) (n + 1) cap) (n + 1) (xs ++ oneEnt k) → Chg (fun i => ev.ownBlock = some i) w w' → w'.heap[bb]? = some (.cells #[ev, .int .i64 0, mv] 54 (0, 0)) →
      w'.cell? ⟨bb, 0, none⟩ = some ev → w'.frozen? ⟨bb, 0, none⟩ = false → K (a.put o.dst (.slice (some ⟨g, 0, none⟩) (n + 1) cap)) w') :
    if Region.wanted o (yielded ops a.tmps) = true then Oper.wp Yba.prog o a w K Q else E := by
  obtain ⟨i0, hi, hz0, hz1, hz2⟩ := info_parts Yba.info61
  refine step_append_own hg s x 51 hop (bb + 1) 61 i0 _ 4 48 Yba.underlying51 hi hz0 hz1 hz2 rfl (by decide) ev n xs hs hown ⟨hb, 0, none⟩ 1 1 (oneEnt k) hx rfl ?_ ?_ (by unfold maxLen; omega) (by omega) ?_ ?_
  · intro j u hj
    rw [show (⟨hb, 0, none⟩ : Addr).add j = ⟨hb, j, none⟩ by unfold Addr.add; split <;> simp_all, cell_of_row _ _ _ _ _ _ hnew]
    simpa using hj
  · intro u hu
    simp at hu
    rcases hu with rfl | rfl | rfl | rfl <;> rfl
  · have := lt_of_block blk; omega
  · intro v' w' h1 h2 h3
    obtain ⟨g, cap, cur, rfl, hr1, hr2, hr3, hr4, hr5, hr6⟩ := ownsRow_form h1 (by omega)
    have hne : ∀ i, ev.ownBlock = some i → bb ≠ i := by
      intro i hi' e
      obtain ⟨cur', hc'⟩ := ownsRow_block hown hi'
      rw [← e, blk] at hc'
      simp at hc'
    have hc : Chg (fun i => ev.ownBlock = some i) w w' := Chg.grown h2 (fun k hk => hk)
    have blk' := hc.at blk (fun e => hne bb e rfl)
    exact hK g cap w' h1 hc blk' (by rw [cell_of_row w' bb 0 _ _ _ blk']; rfl) (frozen_of_row w' bb 0 _ _ blk')

/-- What an append in 'entry' leaves: the batch's cell turned, the row grown. -/
theorem grow_end {w w0 w' : World} {bb g cap n : Nat} {ev mv : Value} {xs : List Value} (h0 : Chg (fun _ => False) w w0)
    (hown : w'.ownsRow (bb + 1) 61 4 (.slice (some ⟨g, 0, none⟩) n cap) n xs) (hchg : Chg (fun i => ev.ownBlock = some i) w0 w') (blk' : w'.heap[bb]? = some (.cells #[ev, .int .i64 0, mv] 54 (0, 0))) :
    Chg (fun i => i = bb ∨ ev.ownBlock = some i) w (w'.setCell ⟨bb, 0, none⟩ (.slice (some ⟨g, 0, none⟩) n cap)) ∧
    (w'.setCell ⟨bb, 0, none⟩ (.slice (some ⟨g, 0, none⟩) n cap)).heap[bb]? = some (.cells #[.slice (some ⟨g, 0, none⟩) n cap, .int .i64 0, mv] 54 (0, 0)) ∧
    (w'.setCell ⟨bb, 0, none⟩ (.slice (some ⟨g, 0, none⟩) n cap)).ownsRow (bb + 1) 61 4 (.slice (some ⟨g, 0, none⟩) n cap) n xs := by
  refine ⟨?_, blk_set blk', ownsRow_other hown blk' (by simp) _⟩
  exact ((h0.mono (fun _ h => h.elim)).trans (hchg.mono (fun i hi => Or.inr hi))).trans (Chg.setCell _ _ _ _ (Or.inl rfl))

section
variable (bb : Nat) (ka : Option Addr) (kl kc : Nat) (k : ByteArray) (w : World)

set_option maxRecDepth 20000 in
set_option maxHeartbeats 800000 in
theorem entry_first (blk : w.heap[bb]? = some (.cells #[.slice none 0 0, .int .i64 0, .map none] 54 (0, 0)))
    (hconv : ∀ nq, (convert 30 9 (.slice ka kl kc)).run Yba.prog (w.drewN nq) = .ok (.string k) (w.drewN nq)) :
    Calls Yba.prog 13 #[.pointer (some ⟨bb, 0, none⟩), .slice ka kl kc] w fun e w' => ∃ g cap, e = .returned (.pointer (some ⟨g, 0, none⟩)) ∧ Chg (fun i => i = bb ∨ Value.ownBlock (.slice none 0 0) = some i) w w' ∧
      w'.heap[bb]? = some (.cells #[.slice (some ⟨g, 0, none⟩) 1 cap, .int .i64 0, .map none] 54 (0, 0)) ∧ w'.ownsRow (bb + 1) 61 4 (.slice (some ⟨g, 0, none⟩) 1 cap) 1 (oneEnt k) := by
  have hmn := mapNil
  have c0 : w.cell? ⟨bb, 0, none⟩ = some (.slice none 0 0) := by rw [cell_of_row w bb 0 _ _ _ blk]; rfl
  have c2 : w.cell? ⟨bb, 2, none⟩ = some (.map none) := by rw [cell_of_row w bb 2 _ _ _ blk]; rfl
  have c0a : ∀ N o, ((w.drewN N).alloc o).cell? ⟨bb, 0, none⟩ = some (.slice none 0 0) := fun N o => (cell_of_row _ bb 0 _ _ _ (blk_alloc (w := w.drewN N) blk o)).trans rfl
  go_enter Yba.func13, Yba.ntmps13
  go_wp2
  go_quiet (fail)
  go_wp2
  have hconv2 : (convert 30 9 (.slice ka kl kc)).run Yba.prog (w.drewN nq).drew = .ok (.string k) (w.drewN nq).drew := hconv (nq + 1)
  go_region_law (refine step_grow rfl (.tmp 40) (.tmp 44) rfl bb (.slice none 0 0) (.map none) 0 [] k w.heap.size (by simp [Act.eval]) (by simp [Act.eval]) (blk_alloc blk _) (World.ownsRow_nil _ _ _ _) (heap_alloc_new w _) (by omega) ?_; intro g cap w' hown hchg blk' c0' f0')
  all_goals go_wp2
  all_goals go_ret
  all_goals exact ⟨g, cap, rfl, grow_end ((Chg.drewN _ w _).trans (Chg.alloc _ _ _)) hown hchg blk'⟩

set_option maxRecDepth 20000 in
set_option maxHeartbeats 800000 in
theorem entry_above (g m cap : Nat) (xs : List Value) (last : ByteArray) (hm : m < 2000)
    (blk : w.heap[bb]? = some (.cells #[.slice (some ⟨g, 0, none⟩) (m + 1) cap, .int .i64 0, .map none] 54 (0, 0)))
    (hown0 : w.ownsRow (bb + 1) 61 4 (.slice (some ⟨g, 0, none⟩) (m + 1) cap) (m + 1) xs) (ce : w.cell? ⟨g, m * 4, none⟩ = some (.string last))
    (hless : Op.bytesLess last.toList k.toList = true)
    (hconv : ∀ nq, (convert 30 9 (.slice ka kl kc)).run Yba.prog (w.drewN nq) = .ok (.string k) (w.drewN nq)) :
    Calls Yba.prog 13 #[.pointer (some ⟨bb, 0, none⟩), .slice ka kl kc] w fun e w' => ∃ g' cap', e = .returned (.pointer (some ⟨g', (m + 1) * 4, none⟩)) ∧ Chg (fun i => i = bb ∨ Value.ownBlock (.slice (some ⟨g, 0, none⟩) (m + 1) cap) = some i) w w' ∧
      w'.heap[bb]? = some (.cells #[.slice (some ⟨g', 0, none⟩) (m + 1 + 1) cap', .int .i64 0, .map none] 54 (0, 0)) ∧ w'.ownsRow (bb + 1) 61 4 (.slice (some ⟨g', 0, none⟩) (m + 1 + 1) cap') (m + 1 + 1) (xs ++ oneEnt k) := by
  have hmn := mapNil
  have c0 : w.cell? ⟨bb, 0, none⟩ = some (.slice (some ⟨g, 0, none⟩) (m + 1) cap) := by rw [cell_of_row w bb 0 _ _ _ blk]; rfl
  have c2 : w.cell? ⟨bb, 2, none⟩ = some (.map none) := by rw [cell_of_row w bb 2 _ _ _ blk]; rfl
  have c0a : ∀ N o, ((w.drewN N).alloc o).cell? ⟨bb, 0, none⟩ = some (.slice (some ⟨g, 0, none⟩) (m + 1) cap) := fun N o => (cell_of_row _ bb 0 _ _ _ (blk_alloc (w := w.drewN N) blk o)).trans rfl
  have hg0 : (((m : Int) + 1) == 0) = false := by rw [beq_eq_false_iff_ne]; omega
  go_enter Yba.func13, Yba.ntmps13
  go_wp2
  go_quiet (fail)
  go_wp2
  have hconv2 : (convert 30 9 (.slice ka kl kc)).run Yba.prog (w.drewN nq).drew = .ok (.string k) (w.drewN nq).drew := hconv (nq + 1)
  go_region_law (refine step_grow rfl (.tmp 40) (.tmp 44) rfl bb (.slice (some ⟨g, 0, none⟩) (m + 1) cap) (.map none) (m + 1) xs k w.heap.size (by simp [Act.eval]) (by simp [Act.eval]) (blk_alloc blk _) (hown0.alloc _) (heap_alloc_new w _) (by omega) ?_; intro g' cap' w' hown hchg blk' c0' f0')
  all_goals go_wp2
  all_goals go_ret
  all_goals exact ⟨g', cap', rfl, grow_end ((Chg.drewN _ w _).trans (Chg.alloc _ _ _)) hown hchg blk'⟩

set_option maxHeartbeats 400000 in
theorem entry_last (g m cap : Nat) (hm : m < 2000)
    (c0 : w.cell? ⟨bb, 0, none⟩ = some (.slice (some ⟨g, 0, none⟩) (m + 1) cap)) (c2 : w.cell? ⟨bb, 2, none⟩ = some (.map none))
    (ce : w.cell? ⟨g, m * 4, none⟩ = some (.string k)) (hless : Op.bytesLess k.toList k.toList = false)
    (hconv : ∀ nq, (convert 30 9 (.slice ka kl kc)).run Yba.prog (w.drewN nq) = .ok (.string k) (w.drewN nq)) :
    Calls Yba.prog 13 #[.pointer (some ⟨bb, 0, none⟩), .slice ka kl kc] w fun e w' => e = .returned (.pointer (some ⟨g, m * 4, none⟩)) ∧ ∃ n, w' = w.drewN n := by
  have hmn := mapNil
  have hg0 : (((m : Int) + 1) == 0) = false := by rw [beq_eq_false_iff_ne]; omega
  go_enter Yba.func13, Yba.ntmps13
  go_wp2
  go_quiet (fail)
  go_wp2
  go_quiet (fail)
  go_wp2
  go_ret
  exact ⟨rfl, _, by rfl⟩

set_option maxHeartbeats 400000 in
theorem entry_hit (g n cap im j : Nat) (hj : j < n) (hn : n ≤ 2000)
    (c0 : w.cell? ⟨bb, 0, none⟩ = some (.slice (some ⟨g, 0, none⟩) n cap)) (c2 : w.cell? ⟨bb, 2, none⟩ = some (.map (some im)))
    (hlook : ∀ nq, (Instr.lookup 52 (.map (some im)) (.string k) true).run Yba.prog (w.drewN nq) = .ok (.tuple #[.int .i64 j, .bool true]) (w.drewN nq))
    (hconv : ∀ nq, (convert 30 9 (.slice ka kl kc)).run Yba.prog (w.drewN nq) = .ok (.string k) (w.drewN nq)) :
    Calls Yba.prog 13 #[.pointer (some ⟨bb, 0, none⟩), .slice ka kl kc] w fun e w' => e = .returned (.pointer (some ⟨g, j * 4, none⟩)) ∧ ∃ n, w' = w.drewN n := by
  have hmn := mapNil
  go_enter Yba.func13, Yba.ntmps13
  go_wp2
  go_quiet (fail)
  go_wp2
  go_ret
  exact ⟨rfl, _, by rfl⟩
end

section
variable (bb : Nat) (ka : Option Addr) (kl kc : Nat) (k : ByteArray) (w : World)

/-- The key's cell of the entry that was just laid. -/
theorem cell_newest {w : World} {bb g n cap : Nat} {xs : List Value} (h : w.ownsRow (bb + 1) 61 4 (.slice (some ⟨g, 0, none⟩) (n + 1) cap) (n + 1) (xs ++ oneEnt k)) : w.cell? ⟨g, n * 4, none⟩ = some (.string k) := by
  have hl : xs.length = n * 4 := by have := h.1; simp at this; omega
  refine ownsRow_cell h ?_
  rw [← hl, List.getElem?_append_right (Nat.le_refl _)]
  simp

theorem miss_put {w' : World} {bb im : Nat} {ev : Value} {L : List (ByteArray × Value)} {w0 : World} (hmap : MapIs w0 im Value.string L) (hne : ∀ p ∈ L, p.1 ≠ k) (hev : ∀ i, ev.ownBlock = some i → i ≠ im)
    (hchg : Chg (fun i => ev.ownBlock = some i) w0 w') (blk' : w'.heap[bb]? = some (.cells #[ev, .int .i64 0, .map (some im)] 54 (0, 0))) (v : Value) (u : Value) :
    ∃ w2, (Instr.mapUpdate 52 (.map (some im)) (.string k) v).run Yba.prog (w'.setCell ⟨bb, 0, none⟩ u).drew = .ok () w2 ∧ MapIs w2 im Value.string (L ++ [(k, v)]) ∧ Chg (fun i => i = im) (w'.setCell ⟨bb, 0, none⟩ u) w2 ∧ MapIs (w'.setCell ⟨bb, 0, none⟩ u) im Value.string L := by
  have hbi : im ≠ bb := by
    intro e
    have h1 := hmap.kept hchg (fun h => hev im h rfl)
    rw [e] at h1
    exact h1.notCells blk'
  have h1 := (hmap.kept hchg (fun h => hev im h rfl)).kept (Chg.setCell (fun i => i = bb) w' ⟨bb, 0, none⟩ u rfl) hbi
  have h2 := h1.kept (Chg.drew (fun _ => False) _) (fun h => h)
  obtain ⟨w2, hr, hm, hc⟩ := h2.put_new (stringKey Yba.underlying9) Yba.underlying52 k v hne
  exact ⟨w2, hr, hm, ((Chg.drew _ _).trans hc), h1⟩

set_option maxRecDepth 20000 in
set_option maxHeartbeats 800000 in
theorem entry_miss (g n cap im : Nat) (xs : List Value) (L : List (ByteArray × Value)) (hn : n ≤ 2000)
    (blk : w.heap[bb]? = some (.cells #[.slice (some ⟨g, 0, none⟩) n cap, .int .i64 0, .map (some im)] 54 (0, 0)))
    (hown0 : w.ownsRow (bb + 1) 61 4 (.slice (some ⟨g, 0, none⟩) n cap) n xs)
    (hmap : MapIs w im Value.string L) (hne : ∀ p ∈ L, p.1 ≠ k) (hev : ∀ i, Value.ownBlock (.slice (some ⟨g, 0, none⟩) n cap) = some i → i ≠ im)
    (hconv : ∀ nq, (convert 30 9 (.slice ka kl kc)).run Yba.prog (w.drewN nq) = .ok (.string k) (w.drewN nq)) :
    Calls Yba.prog 13 #[.pointer (some ⟨bb, 0, none⟩), .slice ka kl kc] w fun e w' => ∃ g' cap', e = .returned (.pointer (some ⟨g', n * 4, none⟩)) ∧ Chg (fun i => i = bb ∨ i = g ∨ i = im) w w' ∧
      w'.heap[bb]? = some (.cells #[.slice (some ⟨g', 0, none⟩) (n + 1) cap', .int .i64 0, .map (some im)] 54 (0, 0)) ∧ w'.ownsRow (bb + 1) 61 4 (.slice (some ⟨g', 0, none⟩) (n + 1) cap') (n + 1) (xs ++ oneEnt k) ∧
      MapIs w' im Value.string (L ++ [(k, .int .i64 n)]) := by
  have hmn := mapNil
  have c0 : w.cell? ⟨bb, 0, none⟩ = some (.slice (some ⟨g, 0, none⟩) n cap) := by rw [cell_of_row w bb 0 _ _ _ blk]; rfl
  have c2 : w.cell? ⟨bb, 2, none⟩ = some (.map (some im)) := by rw [cell_of_row w bb 2 _ _ _ blk]; rfl
  have c0a : ∀ N o, ((w.drewN N).alloc o).cell? ⟨bb, 0, none⟩ = some (.slice (some ⟨g, 0, none⟩) n cap) := fun N o => (cell_of_row _ bb 0 _ _ _ (blk_alloc (w := w.drewN N) blk o)).trans rfl
  have hlook : ∀ nq, (Instr.lookup 52 (.map (some im)) (.string k) true).run Yba.prog (w.drewN nq) = .ok (.tuple #[.int .i64 0, .bool false]) (w.drewN nq) := fun nq =>
    (hmap.kept (Chg.drewN (fun _ => False) w nq) (fun h => h)).look_miss (stringKey Yba.underlying9) Yba.underlying52 (by kernel_rfl) k hne true
  have hbi : bb ≠ im := fun e => by rw [← e] at hmap; exact hmap.notCells blk
  go_enter Yba.func13, Yba.ntmps13
  go_wp2
  go_quiet (fail)
  go_wp2
  have hconv2 : (convert 30 9 (.slice ka kl kc)).run Yba.prog (w.drewN nq).drew = .ok (.string k) (w.drewN nq).drew := hconv (nq + 1)
  go_region_law (refine step_grow rfl (.tmp 118) (.tmp 122) rfl bb (.slice (some ⟨g, 0, none⟩) n cap) (.map (some im)) n xs k w.heap.size (by simp [Act.eval]) (by simp [Act.eval]) (blk_alloc blk _) (hown0.alloc _) (heap_alloc_new w _) (by omega) ?_; intro g' cap' w' hown hchg blk' c0' f0')
  all_goals go_wp2
  all_goals
    obtain ⟨hc1, hb1, ho1⟩ := grow_end ((Chg.drewN (fun _ => False) w (nq + 1)).trans (Chg.alloc _ _ _)) hown hchg blk'
    obtain ⟨w2, hput, hm2, hc2, hm1⟩ := miss_put k hmap hne hev ((((Chg.drewN (fun _ => False) w (nq + 1)).trans (Chg.alloc _ _ _)).mono (fun _ h => h.elim)).trans hchg) blk' (.int .i64 n) (.slice (some ⟨g', 0, none⟩) (n + 1) cap')
    clear hown hchg blk' c0' f0' c0 c2 c0a hconv2 hlook
    generalize w'.setCell ⟨bb, 0, none⟩ (.slice (some ⟨g', 0, none⟩) (n + 1) cap') = w1 at *
    have c0 : w1.cell? ⟨bb, 0, none⟩ = some (.slice (some ⟨g', 0, none⟩) (n + 1) cap') := by rw [cell_of_row w1 bb 0 _ _ _ hb1]; rfl
    have c2 : w1.cell? ⟨bb, 2, none⟩ = some (.map (some im)) := by rw [cell_of_row w1 bb 2 _ _ _ hb1]; rfl
    have ck := cell_newest k ho1
    have hb2 := hc2.at hb1 hbi
    have c02 : w2.cell? ⟨bb, 0, none⟩ = some (.slice (some ⟨g', 0, none⟩) (n + 1) cap') := by rw [cell_of_row w2 bb 0 _ _ _ hb2]; rfl
    go_region
  all_goals go_wp2
  all_goals go_ret
  all_goals
    refine ⟨g', cap', rfl, ?_, hb2, hc2.ownsRow ho1 ?_, hm2⟩
    · refine (hc1.mono ?_).trans (hc2.mono (fun i hi => Or.inr (Or.inr hi)))
      intro i hi
      simp only [Value.ownBlock, Option.some.injEq] at hi
      omega
    · intro i hi e
      obtain ⟨cur, hcur⟩ := ownsRow_block ho1 hi
      subst e
      exact absurd hcur (hm1.notCells)
end
end Go.Proofs.Ybulkamoo
