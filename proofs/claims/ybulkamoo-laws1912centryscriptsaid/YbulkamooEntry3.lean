/-
  OUR OWN. '(*Batch).entry': one contract for every way.
-/
import Derived.Test.YbulkamooEntry2
namespace Go.Proofs.Ybulkamoo
open Go.RowKit
set_option linter.unusedVariables false

/-! ### strings -/
abbrev less (a b : ByteArray) : Bool := Op.bytesLess a.toList b.toList
theorem bytesLess_irrefl : ∀ x : List UInt8, Op.bytesLess x x = false
  | [] => rfl
  | a :: x => by simp [Op.bytesLess, bytesLess_irrefl x]
theorem bytesLess_trans : ∀ x y z : List UInt8, Op.bytesLess x y = true → Op.bytesLess y z = true → Op.bytesLess x z = true
  | _, _, [], _, h => by cases ‹List UInt8› <;> simp [Op.bytesLess] at h
  | _, [], c :: z, h, _ => by cases ‹List UInt8› <;> simp [Op.bytesLess] at h
  | [], _ :: _, _ :: _, _, _ => rfl
  | a :: x, b :: y, c :: z, h1, h2 => by
    simp only [Op.bytesLess, Bool.or_eq_true, decide_eq_true_eq, Bool.and_eq_true, beq_iff_eq] at h1 h2 ⊢
    rcases h1 with h1 | ⟨rfl, h1⟩
    · rcases h2 with h2 | ⟨rfl, h2⟩
      · exact Or.inl (UInt8.lt_trans h1 h2)
      · exact Or.inl h1
    · rcases h2 with h2 | ⟨rfl, h2⟩
      · exact Or.inl h2
      · exact Or.inr ⟨rfl, bytesLess_trans x y z h1 h2⟩
theorem toList_inj {a b : ByteArray} (h : a.toList = b.toList) : a = b := by
  rw [ByteArray.toList_eq, ByteArray.toList_eq] at h
  exact WideShapes.bytes_inj h

def entCells : List ByteArray → List Value → List Value
  | k :: ks, v :: vs => .string k :: v :: .bool false :: .bool false :: entCells ks vs
  | _, _ => []
theorem entCells_append : ∀ (M : List ByteArray) (vs : List Value) (N : List ByteArray) (us : List Value), vs.length = M.length → entCells (M ++ N) (vs ++ us) = entCells M vs ++ entCells N us
  | [], [], N, us, _ => rfl
  | k :: M, v :: vs, N, us, h => by simp [entCells, entCells_append M vs N us (by simpa using h)]
  | [], _ :: _, _, _, h => by simp at h
  | _ :: _, [], _, _, h => by simp at h
theorem entCells_at : ∀ (M : List ByteArray) (vs : List Value) (t : Nat) (k : ByteArray) (v : Value), M[t]? = some k → vs[t]? = some v →
    (entCells M vs)[t * 4]? = some (.string k) ∧ (entCells M vs)[t * 4 + 1]? = some v ∧ (entCells M vs)[t * 4 + 2]? = some (.bool false) ∧ (entCells M vs)[t * 4 + 3]? = some (.bool false)
  | [], _, _, _, _, h, _ => by simp at h
  | _ :: _, [], _, _, _, _, h => by simp at h
  | a :: M, b :: vs, 0, k, v, h1, h2 => by simp at h1 h2; subst h1 h2; simp [entCells]
  | a :: M, b :: vs, t + 1, k, v, h1, h2 => by
    have := entCells_at M vs t k v (by simpa using h1) (by simpa using h2)
    rw [show (t + 1) * 4 = t * 4 + 4 by omega]
    simpa [entCells] using this
theorem entRow_of {cur : Array Value} {M : List ByteArray} {vs : List Value} {n : Nat} (hl : vs.length = M.length) (hvs : ∀ v ∈ vs, ∃ a l c, v = .slice a l c) (h : cur.toList.take n = entCells M vs) : EntRow cur M := by
  intro t kt hk
  have hlt : t < vs.length := by rw [hl]; rcases Nat.lt_or_ge t M.length with h' | h'; exact h'; rw [List.getElem?_eq_none h'] at hk; cases hk
  obtain ⟨a, l, c, hv⟩ := hvs (vs[t]) (List.getElem_mem hlt)
  have h4 := entCells_at M vs t kt (vs[t]) hk (List.getElem?_eq_getElem hlt)
  have key : ∀ (j : Nat) (u : Value), (entCells M vs)[j]? = some u → cur[j]? = some u := by
    intro j u hj
    rw [← h, List.getElem?_take] at hj
    split at hj
    · simpa using hj
    · cases hj
  rw [hv] at h4
  exact ⟨a, l, c, key _ _ h4.1, key _ _ h4.2.1, key _ _ h4.2.2.1, key _ _ h4.2.2.2⟩

/-- Is the index there behind the call? -/
def newInd (ind : Bool) (M : List ByteArray) (k : ByteArray) : Bool :=
  ind || match M.getLast? with
    | none => false
    | some l => !less l k && !(l.toList == k.toList)

theorem above_new {M : List ByteArray} (hs : M.Pairwise (fun a b => less a b = true)) {l k : ByteArray} (hl : M.getLast? = some l) (hlk : less l k = true) : ∀ x ∈ M, less x k = true := by
  obtain ⟨M0, rfl⟩ := List.getLast?_eq_some_iff.1 hl
  intro x hx
  rcases List.mem_append.1 hx with h | h
  · have := (List.pairwise_append.1 hs).2.2 x h l (by simp)
    exact bytesLess_trans _ _ _ this hlk
  · simp at h; subst h; exact hlk

theorem entry_any (bb kb kl kc : Nat) (ka : Option Addr) (k : ByteArray) (w : World) (ev : Value) (vs : List Value) (M : List ByteArray) (ix : Option Nat)
    (hM : M.length ≤ 1024) (hnd : M.Nodup) (hsort : ix = none → M.Pairwise (fun a b => less a b = true)) (hvl : vs.length = M.length) (hvs : ∀ v ∈ vs, ∃ a l c, v = .slice a l c) (hev : M = [] → ev = .slice none 0 0) (hne0 : ix ≠ none → M ≠ [])
    (blk : w.heap[bb]? = some (.cells #[ev, .int .i64 0, .map ix] 54 (0, 0))) (own : w.ownsRow (bb + 1) 61 4 ev M.length (entCells M vs)) (hix : ∀ im, ix = some im → MapIs w im Value.string (idxL M) ∧ bb < im)
    (hkb : kb < w.heap.size) (hkn : kb ≠ bb) (hconv : ∀ W : World, W.heap[kb]? = w.heap[kb]? → (convert 30 9 (.slice ka kl kc)).run Yba.prog W = .ok (.string k) W) :
    Calls Yba.prog 13 #[.pointer (some ⟨bb, 0, none⟩), .slice ka kl kc] w (EntPost w bb ev ix (entCells M vs) M k (newInd ix.isSome M k)) := by
  have hcv : ∀ nq, (convert 30 9 (.slice ka kl kc)).run Yba.prog (w.drewN nq) = .ok (.string k) (w.drewN nq) := fun nq => hconv _ rfl
  rcases Nat.eq_zero_or_pos M.length with hz | hpos
  · obtain rfl : M = [] := List.eq_nil_of_length_eq_zero hz
    obtain rfl := hev rfl
    cases ix with
    | none =>
      refine (entry_first bb ka kl kc k w blk hcv).mono ?_
      rintro e w' ⟨g, cap, rfl, hc, hb, ho⟩
      exact ⟨g, cap, none, 0, [k], oneEnt k, rfl, rfl, hc.mono (fun i hi => by rcases hi with h | h; exact Or.inl h; exact Or.inr (Or.inl h)), hb, ho, Or.inr ⟨by simp, rfl, by simp [entCells]⟩, rfl, fun im h => by cases h⟩
    | some im => exact absurd rfl (hne0 (by simp))
  · obtain ⟨g, cap, cur, rfl, hgb, hrow, hnc, hcm, hcs, htake⟩ := ownsRow_form own hpos
    obtain ⟨m, hm⟩ : ∃ m, M.length = m + 1 := ⟨M.length - 1, by omega⟩
    have hrowE := entRow_of hvl hvs htake
    have hc0 : w.cell? ⟨bb, 0, none⟩ = some (.slice (some ⟨g, 0, none⟩) (m + 1) cap) := by rw [cell_of_row w bb 0 _ _ _ blk, hm]; rfl
    have hc2 : w.cell? ⟨bb, 2, none⟩ = some (.map ix) := by rw [cell_of_row w bb 2 _ _ _ blk]; rfl
    have hgne : g ≠ bb := by omega
    cases ix with
    | some im =>
      obtain ⟨hmap, hbi⟩ := hix im rfl
      have hgi : ∀ i, Value.ownBlock (.slice (some ⟨g, 0, none⟩) M.length cap) = some i → i ≠ im := by
        intro i hi e
        simp only [Value.ownBlock, Option.some.injEq] at hi
        subst hi e
        exact hmap.notCells hrow
      by_cases hk : k ∈ M
      · obtain ⟨j, hj⟩ := List.mem_iff_getElem?.1 hk
        have hjl : j < M.length := by rcases Nat.lt_or_ge j M.length with h' | h'; exact h'; rw [List.getElem?_eq_none h'] at hj; cases hj
        have hlook : ∀ N, (Instr.lookup 52 (.map (some im)) (.string k) true).run Yba.prog (w.drewN N) = .ok (.tuple #[.int .i64 j, .bool true]) (w.drewN N) := fun N => by
          have := idxFrom_mem M 0 j k hj
          rw [Nat.zero_add] at this
          exact (hmap.kept (Chg.drewN (fun _ => False) w N) (fun h => h)).look_hit (stringKey Yba.underlying9) Yba.underlying52 k (.int .i64 j) (by rw [idxFrom_keys]; exact hnd) this true
        refine (entry_hit bb ka kl kc k w g (m + 1) cap im j (by omega) (by omega) hc0 hc2 hlook hcv).mono ?_
        rintro e w' ⟨rfl, n, rfl⟩
        exact ⟨g, cap, some im, j, M, _, rfl, hj, Chg.drewN _ _ _, blk, own, Or.inl ⟨hk, rfl, rfl⟩, rfl, fun i hi => by cases hi; exact ⟨hmap, hbi⟩⟩
      · have hne : ∀ p ∈ idxL M, p.1 ≠ k := fun p hp e => hk (by have h1 : p.1 ∈ (idxL M).map (·.1) := List.mem_map.2 ⟨p, hp, rfl⟩; rw [idxFrom_keys, e] at h1; exact h1)
        refine (entry_miss bb ka kl kc k w g M.length cap im _ (idxL M) (by omega) blk own hmap hne hgi hcv).mono ?_
        rintro e w' ⟨g', cap', rfl, hc, hb, ho, hm'⟩
        refine ⟨g', cap', some im, M.length, M ++ [k], _, rfl, by simp, ?_, by simpa using hb, by simpa using ho, Or.inr ⟨hk, rfl, rfl⟩, rfl, fun i hi => ?_⟩
        · refine hc.mono (fun i hi => ?_)
          simp only [Value.ownBlock, Option.some.injEq]
          omega
        · cases hi
          refine ⟨?_, hbi⟩
          rw [idxL, idxFrom_append, Nat.zero_add]
          exact hm'
    | none =>
      obtain ⟨last, hlast⟩ : ∃ l, M.getLast? = some l := by
        cases h : M.getLast? with
        | none => rw [List.getLast?_eq_none_iff] at h; subst h; simp at hpos
        | some l => exact ⟨l, rfl⟩
      have hlm : M[m]? = some last := by rw [List.getLast?_eq_getElem?, hm] at hlast; simpa using hlast
      obtain ⟨_, _, _, ce0, _⟩ := hrowE m last hlm
      have ce : w.cell? ⟨g, m * 4, none⟩ = some (.string last) := by rw [cell_of_row w g _ _ _ _ hrow]; exact ce0
      by_cases hlk : less last k = true
      · have hk : k ∉ M := fun h => by have := above_new (hsort rfl) hlast hlk k h; rw [less, bytesLess_irrefl] at this; cases this
        rw [hm] at blk own
        refine (entry_above bb ka kl kc k w g m cap _ last (by omega) blk own ce hlk hcv).mono ?_
        rintro e w' ⟨g', cap', rfl, hc, hb, ho⟩
        refine ⟨g', cap', none, m + 1, M ++ [k], _, rfl, ?_, ?_, by simpa [hm] using hb, by simpa [hm] using ho, Or.inr ⟨hk, rfl, rfl⟩, ?_, fun i hi => by cases hi⟩
        · rw [List.getElem?_append_right (by omega), hm]; simp
        · refine hc.mono (fun i hi => ?_)
          simp only [Value.ownBlock, Option.some.injEq] at hi ⊢
          omega
        · simp [newInd, hlast, hlk]
      · have hlk' : less last k = false := by simpa using hlk
        by_cases he : last = k
        · subst he
          refine (entry_last bb ka kl kc last w g m cap (by omega) hc0 hc2 ce hlk' hcv).mono ?_
          rintro e w' ⟨rfl, n, rfl⟩
          exact ⟨g, cap, none, m, M, _, rfl, hlm, Chg.drewN _ _ _, blk, own, Or.inl ⟨List.mem_of_getElem? hlm, rfl, rfl⟩, by simp [newInd, hlast], fun i hi => by cases hi⟩
        · have hnk : (last.toList == k.toList) = false := by rw [beq_eq_false_iff_ne]; exact fun h => he (toList_inj h)
          rw [hm] at blk own
          have hpost := entry_turn bb ka kl kc k w kb g m cap _ M cur (by omega) hm hnd last blk hrow hrowE hlm hlk' hnk own hkb hkn hconv
          have hi : newInd (none : Option Nat).isSome M k = true := by simp [newInd, hlast, hlk', hnk]
          rw [hi, hm]
          exact hpost
end Go.Proofs.Ybulkamoo
