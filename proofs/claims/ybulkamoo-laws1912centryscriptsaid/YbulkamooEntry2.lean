/-
  OUR OWN. '(*Batch).entry': the way that makes the index; then one contract for every way.
-/
import Derived.Test.YbulkamooEntry
import Derived.Deep.LoopGhost
namespace Go.Proofs.Ybulkamoo
open Go.RowKit
set_option linter.unusedVariables false
theorem makeIdx (x : Int) (w : World) : (Instr.makeMap 52 (some (.int .i64 x))).run Yba.prog w = .ok (.map (some w.heap.size)) (w.alloc (.map #[] 0)) := by kernel_rfl
/-- The index of the keys M. -/
def idxFrom : List ByteArray → Nat → List (ByteArray × Value)
  | [], _ => []
  | k :: ks, i => (k, .int .i64 i) :: idxFrom ks (i + 1)
abbrev idxL (M : List ByteArray) : List (ByteArray × Value) := idxFrom M 0
theorem idxFrom_length : ∀ (M : List ByteArray) (i : Nat), (idxFrom M i).length = M.length
  | [], _ => rfl
  | _ :: M, i => by simp [idxFrom, idxFrom_length M (i + 1)]
theorem idxFrom_append : ∀ (M N : List ByteArray) (i : Nat), idxFrom (M ++ N) i = idxFrom M i ++ idxFrom N (i + M.length)
  | [], N, i => by simp [idxFrom]
  | k :: M, N, i => by simp [idxFrom, idxFrom_append M N (i + 1), Nat.add_comm, Nat.add_left_comm]
theorem idxFrom_keys : ∀ (M : List ByteArray) (i : Nat), (idxFrom M i).map (·.1) = M
  | [], _ => rfl
  | k :: M, i => by simp [idxFrom, idxFrom_keys M (i + 1)]
theorem idxFrom_mem : ∀ (M : List ByteArray) (i t : Nat) (k : ByteArray), M[t]? = some k → (k, Value.int .i64 ((i + t : Nat) : Int)) ∈ idxFrom M i
  | [], _, _, _, h => by simp at h
  | a :: M, i, 0, k, h => by simp at h; subst h; simp [idxFrom]
  | a :: M, i, t + 1, k, h => by
    have := idxFrom_mem M (i + 1) t k (by simpa using h)
    rw [show i + 1 + t = i + (t + 1) by omega] at this
    simp only [idxFrom, List.mem_cons]
    exact Or.inr this
theorem idx_step {M : List ByteArray} {t : Nat} {kt : ByteArray} (h : M[t]? = some kt) : idxL (M.take (t + 1)) = idxL (M.take t) ++ [(kt, .int .i64 t)] := by
  have hlt : t < M.length := by rcases Nat.lt_or_ge t M.length with h' | h'; exact h'; rw [List.getElem?_eq_none h'] at h; cases h
  have e : M.take (t + 1) = M.take t ++ [kt] := by rw [List.take_add_one, h]; rfl
  rw [e, idxL, idxFrom_append]
  simp [idxFrom, Nat.min_eq_left (Nat.le_of_lt hlt)]
theorem idx_fresh {M : List ByteArray} (hnd : M.Nodup) {t : Nat} {kt : ByteArray} (h : M[t]? = some kt) : ∀ p ∈ idxL (M.take t), p.1 ≠ kt := by
  intro p hp e
  have h1 : p.1 ∈ (idxL (M.take t)).map (·.1) := List.mem_map.2 ⟨p, hp, rfl⟩
  rw [idxFrom_keys, e] at h1
  obtain ⟨j, hj⟩ := List.mem_iff_getElem?.1 h1
  rw [List.getElem?_take] at hj
  split at hj
  · rename_i hjt
    have hlt : j < M.length := by rcases Nat.lt_or_ge j M.length with h' | h'; exact h'; rw [List.getElem?_eq_none h'] at hj; cases hj
    have := (List.getElem?_inj hlt hnd).1 (hj.trans h.symm)
    omega
  · cases hj
theorem turn_start {w : World} {bb : Nat} {ev : Value} (blk : w.heap[bb]? = some (.cells #[ev, .int .i64 0, .map none] 54 (0, 0))) (N : Nat) :
    Chg (fun i => i = bb) w (((w.drewN N).alloc (.map #[] 0)).setCell ⟨bb, 2, none⟩ (.map (some w.heap.size))) ∧
    (((w.drewN N).alloc (.map #[] 0)).setCell ⟨bb, 2, none⟩ (.map (some w.heap.size))).heap[bb]? = some (.cells #[ev, .int .i64 0, .map (some w.heap.size)] 54 (0, 0)) ∧
    MapIs (((w.drewN N).alloc (.map #[] 0)).setCell ⟨bb, 2, none⟩ (.map (some w.heap.size))) w.heap.size Value.string [] := by
  have hlt := lt_of_block blk
  refine ⟨((Chg.drewN _ w N).trans (Chg.alloc _ _ _)).trans (Chg.setCell _ _ _ _ rfl), blk_set (blk_alloc (w := w.drewN N) blk _), ?_⟩
  exact (MapIs.made (w.drewN N) Value.string).kept (Chg.setCell (fun i => i = bb) _ _ _ rfl) (by show ¬ w.heap.size = bb; omega)
/-- What the row of entries holds, entry by entry. -/
def EntRow (cur : Array Value) (M : List ByteArray) : Prop :=
  ∀ t kt, M[t]? = some kt → ∃ va vl vc, cur[t * 4]? = some (.string kt) ∧ cur[t * 4 + 1]? = some (.slice va vl vc) ∧ cur[t * 4 + 2]? = some (.bool false) ∧ cur[t * 4 + 3]? = some (.bool false)

/-- What a call of 'entry' leaves. -/
def EntPost (w : World) (bb : Nat) (ev : Value) (ix : Option Nat) (xs : List Value) (M : List ByteArray) (k : ByteArray) (ind : Bool) (e : Ending) (w' : World) : Prop :=
  ∃ g' cap' ix' j M' xs', e = .returned (.pointer (some ⟨g', j * 4, none⟩)) ∧ M'[j]? = some k ∧ Chg (fun i => i = bb ∨ ev.ownBlock = some i ∨ ix = some i) w w' ∧
    w'.heap[bb]? = some (.cells #[.slice (some ⟨g', 0, none⟩) M'.length cap', .int .i64 0, .map ix'] 54 (0, 0)) ∧
    w'.ownsRow (bb + 1) 61 4 (.slice (some ⟨g', 0, none⟩) M'.length cap') M'.length xs' ∧
    ((k ∈ M ∧ M' = M ∧ xs' = xs) ∨ (k ∉ M ∧ M' = M ++ [k] ∧ xs' = xs ++ oneEnt k)) ∧
    ix'.isSome = ind ∧ ∀ im, ix' = some im → MapIs w' im Value.string (idxL M') ∧ bb < im

section
variable (bb : Nat) (ka : Option Addr) (kl kc : Nat) (k : ByteArray) (w : World)
set_option maxRecDepth 20000 in
set_option maxHeartbeats 1600000 in
theorem entry_turn (kb g m cap : Nat) (xs : List Value) (M : List ByteArray) (cur : Array Value) (hm : m < 2000) (hM : M.length = m + 1) (hnd : M.Nodup) (last : ByteArray)
    (blk : w.heap[bb]? = some (.cells #[.slice (some ⟨g, 0, none⟩) (m + 1) cap, .int .i64 0, .map none] 54 (0, 0)))
    (hrow : w.heap[g]? = some (.cells cur 61 (0, 0))) (hcur : EntRow cur M) (hlast : M[m]? = some last)
    (hless : Op.bytesLess last.toList k.toList = false) (hnk : (last.toList == k.toList) = false)
    (hown0 : w.ownsRow (bb + 1) 61 4 (.slice (some ⟨g, 0, none⟩) (m + 1) cap) (m + 1) xs) (hkb : kb < w.heap.size) (hkn : kb ≠ bb)
    (hconv : ∀ W : World, W.heap[kb]? = w.heap[kb]? → (convert 30 9 (.slice ka kl kc)).run Yba.prog W = .ok (.string k) W) :
    Calls Yba.prog 13 #[.pointer (some ⟨bb, 0, none⟩), .slice ka kl kc] w (EntPost w bb (.slice (some ⟨g, 0, none⟩) (m + 1) cap) none xs M k true) := by
  have hcv0 : ∀ nq, (convert 30 9 (.slice ka kl kc)).run Yba.prog (w.drewN nq) = .ok (.string k) (w.drewN nq) := fun nq => hconv _ rfl
  have hmn := mapNil
  have hmk := makeIdx
  obtain ⟨_, _, _, ce0, _⟩ := hcur m last hlast
  have ce : w.cell? ⟨g, m * 4, none⟩ = some (.string last) := by rw [cell_of_row w g _ _ _ _ hrow]; exact ce0
  have c0 : w.cell? ⟨bb, 0, none⟩ = some (.slice (some ⟨g, 0, none⟩) (m + 1) cap) := by rw [cell_of_row w bb 0 _ _ _ blk]; rfl
  have c2 : w.cell? ⟨bb, 2, none⟩ = some (.map none) := by rw [cell_of_row w bb 2 _ _ _ blk]; rfl
  have c2a : ∀ N o, ((w.drewN N).alloc o).cell? ⟨bb, 2, none⟩ = some (.map none) := fun N o => (cell_of_row _ bb 2 _ _ _ (blk_alloc (w := w.drewN N) blk o)).trans rfl
  have f2a : ∀ N o, ((w.drewN N).alloc o).frozen? ⟨bb, 2, none⟩ = false := fun N o => frozen_of_row _ bb 2 _ _ (blk_alloc (w := w.drewN N) blk o)
  have c0b : ∀ N o u, (((w.drewN N).alloc o).setCell ⟨bb, 2, none⟩ u).cell? ⟨bb, 0, none⟩ = some (.slice (some ⟨g, 0, none⟩) (m + 1) cap) := fun N o u => (cell_of_row _ bb 0 _ _ _ (blk_set (blk_alloc (w := w.drewN N) blk o))).trans rfl
  have hg0 : (((m : Int) + 1) == 0) = false := by rw [beq_eq_false_iff_ne]; omega
  have hgb : g ≠ bb := fun e => by rw [e, blk] at hrow; simp at hrow
  have HC : Hid (EntRow cur M) := hcur
  have HN : Hid (M.Nodup) := hnd
  have HL : Hid (M.length = m + 1) := hM
  have HO : Hid (w.ownsRow (bb + 1) 61 4 (.slice (some ⟨g, 0, none⟩) (m + 1) cap) (m + 1) xs) := hown0
  have HCV : Hid (∀ W : World, W.heap[kb]? = w.heap[kb]? → (convert 30 9 (.slice ka kl kc)).run Yba.prog W = .ok (.string k) W) := hconv
  clear hown0 hconv
  have HLa : Hid (M[m]? = some last) := hlast
  clear hcur hnd hM hlast ce0
  go_enter Yba.func13, Yba.ntmps13
  go_wp2
  go_quiet (fail)
  go_wp2
  rename Nat => n1
  go_quiet (fail)
  go_wp2
  obtain ⟨hc1, hb1, hm1⟩ := turn_start blk (n1 + nq)
  have hr1 := hc1.at hrow hgb
  have hgi : g < w.heap.size := lt_of_block hrow
  have hbi : bb < w.heap.size := lt_of_block blk
  have ho1 := hc1.ownsRow HO.out (by simp [Value.ownBlock]; exact hgb)
  have HCV1 : Hid (∀ W : World, W.heap[kb]? = (((w.drewN (n1 + nq)).alloc (.map #[] 0)).setCell ⟨bb, 2, none⟩ (.map (some w.heap.size))).heap[kb]? → (convert 30 9 (.slice ka kl kc)).run Yba.prog W = .ok (.string k) W) := fun W hW => HCV.out W (hW.trans (hc1.block kb hkb hkn))
  clear c0 c2 c2a f2a c0b hmk ce HCV hcv0
  generalize ((w.drewN (n1 + nq)).alloc (.map #[] 0)).setCell ⟨bb, 2, none⟩ (.map (some w.heap.size)) = w1 at *
  have HI0 : Hid (w.heap.size = w.heap.size) := rfl
  generalize hig : w.heap.size = im at *
  have HI : Hid (w.heap.size = im) := hig
  clear hig HI0
  go_loopg [84] (m + 1) (fun gk i wr => ∃ t : Nat, gk + t = m + 1 ∧ i = .int .i64 t ∧ MapIs wr im Value.string (idxL (M.take t)) ∧ Chg (fun i => i = im) w1 wr)
  case atStart => exact ⟨0, rfl, rfl, hm1, Chg.rfl' _ _⟩
  case round =>
    obtain ⟨t, ht, rfl, hmt, hct⟩ := hrel
    have hrr := hct.at hr1 (by omega)
    have hbr := hct.at hb1 (by omega)
    have c0 : wr.cell? ⟨bb, 0, none⟩ = some (.slice (some ⟨g, 0, none⟩) (m + 1) cap) := by rw [cell_of_row wr bb 0 _ _ _ hbr]; rfl
    have c2 : wr.cell? ⟨bb, 2, none⟩ = some (.map (some im)) := by rw [cell_of_row wr bb 2 _ _ _ hbr]; rfl
    by_cases hlt : t < m + 1
    · obtain ⟨kt, hkt⟩ : ∃ kt, M[t]? = some kt := ⟨M[t]'(by rw [HL.out]; exact hlt), List.getElem?_eq_getElem _⟩
      obtain ⟨va, vl, vc, q0, q1, q2, q3⟩ := HC.out t kt hkt
      have e0 : wr.cell? ⟨g, t * 4, none⟩ = some (.string kt) := by rw [cell_of_row wr g _ _ _ _ hrr]; exact q0
      have e1 : wr.cell? ⟨g, t * 4 + 1, none⟩ = some (.slice va vl vc) := by rw [cell_of_row wr g _ _ _ _ hrr]; exact q1
      have e2 : wr.cell? ⟨g, t * 4 + 2, none⟩ = some (.bool false) := by rw [cell_of_row wr g _ _ _ _ hrr]; exact q2
      have e3 : wr.cell? ⟨g, t * 4 + 3, none⟩ = some (.bool false) := by rw [cell_of_row wr g _ _ _ _ hrr]; exact q3
      have HK : Hid (M[t]? = some kt) := hkt
      clear q0 q1 q2 q3 hkt
      have hbl : bb < wr.heap.size := lt_of_block hbr
      have hm2 := (hmt.kept (Chg.alloc (fun _ => False) wr (.cells #[.string kt, .slice va vl vc, .bool false, .bool false] 61)) (fun h => h)).kept (Chg.drew (fun _ => False) _) (fun h => h)
      obtain ⟨w2, hput, hm3, hc3⟩ := hm2.put_new (stringKey Yba.underlying9) Yba.underlying52 kt (.int .i64 t) (idx_fresh HN.out HK.out)
      go_wp2
      go_region
      go_wp2
      go_roundg (m - t)
      case measure => omega
      case rel =>
        refine ⟨t + 1, by omega, by go_num, ?_, ?_⟩
        · rw [idx_step HK.out]; exact hm3
        · exact hct.trans (((Chg.alloc _ _ _).trans (Chg.drew _ _)).trans hc3)
    · obtain rfl : t = m + 1 := by omega
      rw [List.take_of_length_le (by rw [HL.out]; omega)] at hmt
      have hcv : ∀ N, (convert 30 9 (.slice ka kl kc)).run Yba.prog (wr.drewN N) = .ok (.string k) (wr.drewN N) := fun N => HCV1.out _ (hct.block kb (by have := hm1.lt; omega) (by omega))
      have hor := hct.ownsRow ho1 (by simp [Value.ownBlock]; omega)
      have hcw : Chg (fun i => i = bb) w wr := ⟨hct.os.trans hc1.os, hct.tape.trans hc1.tape, hct.output.trans hc1.output, Nat.le_trans hc1.size hct.size, fun i hi hs => (hct.block i (Nat.lt_of_lt_of_le hi hc1.size) (by have := HI.out; omega)).trans (hc1.block i hi hs)⟩
      by_cases hk : k ∈ M
      · obtain ⟨j, hj⟩ := List.mem_iff_getElem?.1 hk
        have hjl : j < m + 1 := by rcases Nat.lt_or_ge j M.length with h' | h'; (rw [HL.out] at h'; exact h'); rw [List.getElem?_eq_none h'] at hj; cases hj
        have hlook : ∀ N, (Instr.lookup 52 (.map (some im)) (.string k) true).run Yba.prog (wr.drewN N) = .ok (.tuple #[.int .i64 j, .bool true]) (wr.drewN N) := fun N => by
          have := idxFrom_mem M 0 j k hj
          rw [Nat.zero_add] at this
          exact (hmt.kept (Chg.drewN (fun _ => False) wr N) (fun h => h)).look_hit (stringKey Yba.underlying9) Yba.underlying52 k (.int .i64 j) (by rw [idxFrom_keys]; exact HN.out) this true
        have HJ : Hid (M[j]? = some k) := hj
        clear hj
        go_wp2
        go_quiet (fail)
        go_wp2
        go_ret
        refine ⟨g, cap, some im, j, M, xs, rfl, HJ.out, (hcw.mono (fun i hi => Or.inl hi)).trans (Chg.drewN _ _ _), ?_, ?_, Or.inl ⟨hk, rfl, rfl⟩, rfl, ?_⟩
        · rw [HL.out]; exact hbr
        · rw [HL.out]; exact hor
        · intro i hi
          cases hi
          exact ⟨hmt, by omega⟩
      · have hne : ∀ p ∈ idxL M, p.1 ≠ k := fun p hp e => hk (by have h1 : p.1 ∈ (idxL M).map (·.1) := List.mem_map.2 ⟨p, hp, rfl⟩; rw [idxFrom_keys, e] at h1; exact h1)
        have hlook : ∀ N, (Instr.lookup 52 (.map (some im)) (.string k) true).run Yba.prog (wr.drewN N) = .ok (.tuple #[.int .i64 0, .bool false]) (wr.drewN N) := fun N =>
          (hmt.kept (Chg.drewN (fun _ => False) wr N) (fun h => h)).look_miss (stringKey Yba.underlying9) Yba.underlying52 (by kernel_rfl) k hne true
        have c0a : ∀ N o, ((wr.drewN N).alloc o).cell? ⟨bb, 0, none⟩ = some (.slice (some ⟨g, 0, none⟩) (m + 1) cap) := fun N o => (cell_of_row _ bb 0 _ _ _ (blk_alloc (w := wr.drewN N) hbr o)).trans rfl
        have hev : ∀ i, Value.ownBlock (.slice (some ⟨g, 0, none⟩) (m + 1) cap) = some i → i ≠ im := by simp only [Value.ownBlock, Option.some.injEq]; omega
        have HNE : Hid (∀ p ∈ idxL M, p.1 ≠ k) := hne
        clear hne
        go_wp2
        go_quiet (fail)
        go_wp2
        have hconv2 : (convert 30 9 (.slice ka kl kc)).run Yba.prog (wr.drewN nq).drew = .ok (.string k) (wr.drewN nq).drew := hcv (nq + 1)
        go_region_law (refine step_grow rfl (.tmp 118) (.tmp 122) rfl bb (.slice (some ⟨g, 0, none⟩) (m + 1) cap) (.map (some im)) (m + 1) xs k wr.heap.size (by simp [Act.eval]) (by simp [Act.eval]) (blk_alloc hbr _) (hor.alloc _) (heap_alloc_new wr _) (by omega) ?_; intro g' cap' w' hown hchg blk' c0' f0')
        all_goals go_wp2
        all_goals
          obtain ⟨hc4, hb4, ho4⟩ := grow_end ((Chg.drewN (fun _ => False) wr (nq + 1)).trans (Chg.alloc _ _ _)) hown hchg blk'
          obtain ⟨w2, hput, hm2, hc2, hm5⟩ := miss_put k hmt HNE.out hev ((((Chg.drewN (fun _ => False) wr (nq + 1)).trans (Chg.alloc _ _ _)).mono (fun _ h => h.elim)).trans hchg) blk' (.int .i64 (m + 1 : Nat)) (.slice (some ⟨g', 0, none⟩) (m + 1 + 1) cap')
          clear hown hchg blk' c0' f0' c0 c2 c0a hconv2 hlook
          generalize w'.setCell ⟨bb, 0, none⟩ (.slice (some ⟨g', 0, none⟩) (m + 1 + 1) cap') = w4 at *
          have c0 : w4.cell? ⟨bb, 0, none⟩ = some (.slice (some ⟨g', 0, none⟩) (m + 1 + 1) cap') := by rw [cell_of_row w4 bb 0 _ _ _ hb4]; rfl
          have c2 : w4.cell? ⟨bb, 2, none⟩ = some (.map (some im)) := by rw [cell_of_row w4 bb 2 _ _ _ hb4]; rfl
          have ck := cell_newest k ho4
          have hb2 := hc2.at hb4 (show ¬ bb = im by omega)
          have c02 : w2.cell? ⟨bb, 0, none⟩ = some (.slice (some ⟨g', 0, none⟩) (m + 1 + 1) cap') := by rw [cell_of_row w2 bb 0 _ _ _ hb2]; rfl
          have hput' : (Instr.mapUpdate 52 (.map (some im)) (.string k) (.int .i64 ((m : Int) + 1))).run Yba.prog w4.drew = .ok () w2 := hput
          clear hput
          go_region
        all_goals go_wp2
        all_goals go_ret
        all_goals
          refine ⟨g', cap', some im, m + 1, M ++ [k], xs ++ oneEnt k, rfl, ?_, ?_, ?_, ?_, Or.inr ⟨hk, rfl, rfl⟩, rfl, ?_⟩
          · rw [List.getElem?_append_right (by rw [HL.out]; exact Nat.le_refl _), HL.out]; simp
          · exact ((hcw.mono (fun i hi => Or.inl hi)).trans (hc4.mono (fun i hi => by rcases hi with h | h; exact Or.inl h; exact Or.inr (Or.inl h)))).then hc2 (fun i hi => Or.inr (by rw [HI.out, hi]; exact Nat.le_refl _))
          · rw [List.length_append, HL.out]; exact hb2
          · rw [List.length_append, HL.out]; refine hc2.ownsRow ho4 ?_
            intro i hi e
            obtain ⟨cur, hcur⟩ := ownsRow_block ho4 hi
            subst e
            exact absurd hcur (hm5.notCells)
          · intro i hi
            cases hi
            refine ⟨?_, by omega⟩
            rw [idxL, idxFrom_append, HL.out, Nat.zero_add]
            exact hm2
end
end Go.Proofs.Ybulkamoo
