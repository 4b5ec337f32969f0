/-
  OUR OWN. LawS1918AItems (3): the walk of the law.
-/
import Derived.Test.YbulkamruCheck
namespace Go.Proofs.Ybulkamru
open Go.RowKit
set_option linter.unusedVariables false
set_option linter.unusedSimpArgs false

theorem nodup_at {L : List (ByteArray × Value)} (h : (L.map (·.1)).Nodup) {i j : Nat} {k : ByteArray} {v v' : Value} (hi : L[i]? = some (k, v)) (hj : L[j]? = some (k, v')) : i = j := by
  have e1 : (L.map (·.1))[i]? = some k := by rw [List.getElem?_map, hi]; rfl
  have e2 : (L.map (·.1))[j]? = some k := by rw [List.getElem?_map, hj]; rfl
  have hlt : i < (L.map (·.1)).length := by rcases Nat.lt_or_ge i (L.map (·.1)).length with h | h; exact h; rw [List.getElem?_eq_none h] at e1; cases e1
  exact (List.getElem?_inj hlt h).1 (e1.trans e2.symm)

/-- One stored id more. -/
theorem put_one {w : World} {mb : Nat} {Lm : List (ByteArray × Value)} {st : Nat → ByteArray} {nl : Nat → Bool} {t : Nat} (hm : MapIs w mb Value.string Lm) (hs : Says Lm (fun k => inuse st nl k t)) (v : Value)
    (hv : (nl t = true ∧ v = .pointer none) ∨ (nl t = false ∧ ∃ b, v = .pointer (some ⟨b, 0, none⟩))) :
    ∃ w', (Instr.mapUpdate 24 (.map (some mb)) (.string (st t)) v).run Yba.prog w = .ok () w' ∧ (∃ Lm', MapIs w' mb Value.string Lm' ∧ Says Lm' (fun k => inuse st nl k (t + 1))) ∧ Chg (fun i => i = mb) w w' := by
  have hself : inuse st nl (st t) (t + 1) = !nl t := by simp [inuse]
  have hoth : ∀ k, st t ≠ k → inuse st nl k (t + 1) = inuse st nl k t := fun k h => by simp [inuse, h]
  have hval : (inuse st nl (st t) (t + 1) = false ∧ v = .pointer none) ∨ (inuse st nl (st t) (t + 1) = true ∧ ∃ b, v = .pointer (some ⟨b, 0, none⟩)) := by
    rcases hv with ⟨h1, h2⟩ | ⟨h1, h2⟩
    · exact Or.inl ⟨by rw [hself, h1]; rfl, h2⟩
    · exact Or.inr ⟨by rw [hself, h1]; rfl, h2⟩
  by_cases h : ∃ v0, (st t, v0) ∈ Lm
  · obtain ⟨v0, hv0⟩ := h
    obtain ⟨j, hj⟩ := List.mem_iff_getElem?.1 hv0
    have hjl : j < Lm.length := by rcases Nat.lt_or_ge j Lm.length with h | h; exact h; rw [List.getElem?_eq_none h] at hj; cases hj
    obtain ⟨w', hr, hm', hc⟩ := hm.put_old (stringKey Yba.underlying9) Yba.underlying24 (st t) v hs.keys j v0 hj
    have hkeys : (Lm.set j (st t, v)).map (·.1) = Lm.map (·.1) := by
      apply List.ext_getElem?
      intro i
      rw [List.getElem?_map, List.getElem?_map, List.getElem?_set]
      by_cases e : j = i
      · subst e; rw [if_pos rfl, if_pos hjl, hj]; rfl
      · rw [if_neg e]
    refine ⟨w', hr, ⟨_, hm', ⟨by rw [hkeys]; exact hs.keys, ?_, ?_⟩⟩, hc⟩
    · intro k v' hk
      obtain ⟨i, hi⟩ := List.mem_iff_getElem?.1 hk
      rw [List.getElem?_set] at hi
      by_cases e : j = i
      · rw [if_pos e, if_pos hjl] at hi
        simp only [Option.some.injEq, Prod.mk.injEq] at hi
        obtain ⟨rfl, rfl⟩ := hi
        exact hval
      · rw [if_neg e] at hi
        have hne : st t ≠ k := fun e' => by subst e'; exact e (nodup_at hs.keys hj hi)
        have := hs.mem k v' (List.mem_of_getElem? hi)
        simp only [hoth k hne]
        exact this
    · intro k hk
      have hne : st t ≠ k := hk (st t, v) (List.mem_of_getElem? (i := j) (by rw [List.getElem?_set, if_pos rfl, if_pos hjl]))
      simp only [hoth k hne]
      refine hs.out k (fun p hp e => ?_)
      have h1 : k ∈ (Lm.set j (st t, v)).map (·.1) := by rw [hkeys]; exact List.mem_map.2 ⟨p, hp, e⟩
      obtain ⟨q, hq, hqe⟩ := List.mem_map.1 h1
      exact hk q hq hqe
  · have hno : ∀ p ∈ Lm, p.1 ≠ st t := fun p hp e => h ⟨p.2, by rw [← e]; exact hp⟩
    obtain ⟨w', hr, hm', hc⟩ := hm.put_new (stringKey Yba.underlying9) Yba.underlying24 (st t) v hno
    refine ⟨w', hr, ⟨_, hm', ⟨?_, ?_, ?_⟩⟩, hc⟩
    · rw [List.map_append, List.nodup_append]
      refine ⟨hs.keys, by simp, ?_⟩
      intro a ha b hb e
      obtain ⟨p, hp, rfl⟩ := List.mem_map.1 ha
      simp at hb
      exact hno p hp (by rw [e, hb])
    · intro k v' hk
      rcases List.mem_append.1 hk with hk | hk
      · have hne : st t ≠ k := fun e => hno _ hk e.symm
        simp only [hoth k hne]
        exact hs.mem k v' hk
      · simp at hk
        obtain ⟨rfl, rfl⟩ := hk
        exact hval
    · intro k hk
      have hne : st t ≠ k := hk (st t, v) (by simp)
      simp only [hoth k hne]
      exact hs.out k (fun p hp => hk p (by simp [hp]))
theorem says_nil (st : Nat → ByteArray) (nl : Nat → Bool) : Says [] (fun k => inuse st nl k 0) := ⟨by simp, by simp, fun _ _ => rfl⟩

theorem assertCheck (db : Nat) (w : World) : (Instr.typeAssert (.iface 89 (.pointer (some ⟨db, 0, none⟩))) 80 89 true).run Yba.prog w = .ok (.tuple #[.pointer (some ⟨db, 0, none⟩), .bool true]) w := by kernel_rfl

/-- What lies in memory when the check is asked. -/
abbrev laidW (wr : World) (mb : Nat) (sl0 : Value) : World :=
  (((wr.alloc (Obj.cells #[Value.int IntKind.i32 0, Value.int IntKind.u32 0, Value.map (some mb), Value.map none, Value.map none, Value.map none, Value.int IntKind.u64 0, Value.int IntKind.u64 0] 59)).alloc
    (Obj.cells #[Value.pointer none, Value.map none, Value.slice none 0 0, Value.pointer (some { block := wr.heap.size, off := 0 }), Value.pointer none, Value.string { data := #[] }, Value.int IntKind.u64 0, Value.int IntKind.i32 0, Value.int IntKind.u32 0, Value.map none, Value.int IntKind.i32 0, Value.int IntKind.u32 0, Value.map none, Value.chan none] 72)).alloc
    (Obj.cells #[Value.pointer (some { block := wr.heap.size + 1, off := 0 }), Value.int IntKind.i64 0, Value.int IntKind.i64 0, Value.int IntKind.i64 0, Value.int IntKind.i64 0, Value.string { data := #[] }] 77)).alloc
    (Obj.cells #[sl0] 88)
theorem laid (wr : World) (mb : Nat) (sl0 : Value) : (laidW wr mb sl0).heap[wr.heap.size]? = some (repoRow mb 0) ∧ (laidW wr mb sl0).cell? ⟨wr.heap.size + 1, 3, none⟩ = some (.pointer (some ⟨wr.heap.size, 0, none⟩)) ∧ (laidW wr mb sl0).cell? ⟨wr.heap.size + 1 + 1, 0, none⟩ = some (.pointer (some ⟨wr.heap.size + 1, 0, none⟩)) ∧
    (laidW wr mb sl0).cell? ⟨wr.heap.size + 1 + 1 + 1, 0, none⟩ = some sl0 ∧ Chg (fun _ => False) wr (laidW wr mb sl0) := by
  have k1 := Chg.alloc (fun _ => False) wr (Obj.cells #[Value.int IntKind.i32 0, Value.int IntKind.u32 0, Value.map (some mb), Value.map none, Value.map none, Value.map none, Value.int IntKind.u64 0, Value.int IntKind.u64 0] 59)
  have r1 := heap_alloc_new wr (Obj.cells #[Value.int IntKind.i32 0, Value.int IntKind.u32 0, Value.map (some mb), Value.map none, Value.map none, Value.map none, Value.int IntKind.u64 0, Value.int IntKind.u64 0] 59)
  have s1 := World.size_alloc wr (Obj.cells #[Value.int IntKind.i32 0, Value.int IntKind.u32 0, Value.map (some mb), Value.map none, Value.map none, Value.map none, Value.int IntKind.u64 0, Value.int IntKind.u64 0] 59)
  unfold laidW
  generalize wr.alloc (Obj.cells #[Value.int IntKind.i32 0, Value.int IntKind.u32 0, Value.map (some mb), Value.map none, Value.map none, Value.map none, Value.int IntKind.u64 0, Value.int IntKind.u64 0] 59) = w1 at *
  have k2 := Chg.alloc (fun _ => False) w1 (Obj.cells #[Value.pointer none, Value.map none, Value.slice none 0 0, Value.pointer (some { block := wr.heap.size, off := 0 }), Value.pointer none, Value.string { data := #[] }, Value.int IntKind.u64 0, Value.int IntKind.i32 0, Value.int IntKind.u32 0, Value.map none, Value.int IntKind.i32 0, Value.int IntKind.u32 0, Value.map none, Value.chan none] 72)
  have r2 := heap_alloc_new w1 (Obj.cells #[Value.pointer none, Value.map none, Value.slice none 0 0, Value.pointer (some { block := wr.heap.size, off := 0 }), Value.pointer none, Value.string { data := #[] }, Value.int IntKind.u64 0, Value.int IntKind.i32 0, Value.int IntKind.u32 0, Value.map none, Value.int IntKind.i32 0, Value.int IntKind.u32 0, Value.map none, Value.chan none] 72)
  have s2 := World.size_alloc w1 (Obj.cells #[Value.pointer none, Value.map none, Value.slice none 0 0, Value.pointer (some { block := wr.heap.size, off := 0 }), Value.pointer none, Value.string { data := #[] }, Value.int IntKind.u64 0, Value.int IntKind.i32 0, Value.int IntKind.u32 0, Value.map none, Value.int IntKind.i32 0, Value.int IntKind.u32 0, Value.map none, Value.chan none] 72)
  generalize w1.alloc (Obj.cells #[Value.pointer none, Value.map none, Value.slice none 0 0, Value.pointer (some { block := wr.heap.size, off := 0 }), Value.pointer none, Value.string { data := #[] }, Value.int IntKind.u64 0, Value.int IntKind.i32 0, Value.int IntKind.u32 0, Value.map none, Value.int IntKind.i32 0, Value.int IntKind.u32 0, Value.map none, Value.chan none] 72) = w2 at *
  have k3 := Chg.alloc (fun _ => False) w2 (Obj.cells #[Value.pointer (some { block := wr.heap.size + 1, off := 0 }), Value.int IntKind.i64 0, Value.int IntKind.i64 0, Value.int IntKind.i64 0, Value.int IntKind.i64 0, Value.string { data := #[] }] 77)
  have r3 := heap_alloc_new w2 (Obj.cells #[Value.pointer (some { block := wr.heap.size + 1, off := 0 }), Value.int IntKind.i64 0, Value.int IntKind.i64 0, Value.int IntKind.i64 0, Value.int IntKind.i64 0, Value.string { data := #[] }] 77)
  have s3 := World.size_alloc w2 (Obj.cells #[Value.pointer (some { block := wr.heap.size + 1, off := 0 }), Value.int IntKind.i64 0, Value.int IntKind.i64 0, Value.int IntKind.i64 0, Value.int IntKind.i64 0, Value.string { data := #[] }] 77)
  generalize w2.alloc (Obj.cells #[Value.pointer (some { block := wr.heap.size + 1, off := 0 }), Value.int IntKind.i64 0, Value.int IntKind.i64 0, Value.int IntKind.i64 0, Value.int IntKind.i64 0, Value.string { data := #[] }] 77) = w3 at *
  have k4 := Chg.alloc (fun _ => False) w3 (Obj.cells #[sl0] 88)
  have r4 := heap_alloc_new w3 (Obj.cells #[sl0] 88)
  generalize w3.alloc (Obj.cells #[sl0] 88) = w4 at *
  rw [s1] at r2 s2
  rw [s2] at r3 s3
  rw [s3] at r4
  have no : ¬ False := fun h => h
  refine ⟨k4.at (k3.at (k2.at r1 no) no) no, ?_, ?_, ?_, ((k1.trans k2).trans k3).trans k4⟩
  · rw [cell_of_row _ _ _ _ _ _ (k4.at (k3.at r2 no) no)]; rfl
  · rw [cell_of_row _ _ _ _ _ _ (k4.at r3 no)]; rfl
  · rw [cell_of_row _ _ _ _ _ _ r4]; rfl

set_option maxRecDepth 20000 in
set_option maxHeartbeats 1600000 in
theorem items_walk (a0 : Option Addr) (len0 cap0 : Nat) (a1 : Option Addr) (len1 cap1 : Nat) (a2 : Option Addr) (len2 cap2 : Nat) (id st : Nat → ByteArray) (ni : Nat → Bool) (w : World) (h0 : len0 ≤ 1024) (h1 : len1 ≤ 1024) (h2 : len2 ≤ 1024)
    (hi : ∀ i, i < len0 → ∃ b off, a0 = some ⟨b, off, none⟩ ∧ w.cell? ⟨b, off + i, none⟩ = some (.string (id i)))
    (hs : ∀ i, i < len1 → ∃ b off, a1 = some ⟨b, off, none⟩ ∧ w.cell? ⟨b, off + i, none⟩ = some (.string (st i)))
    (hn : ∀ i, i < len2 → ∃ b off, a2 = some ⟨b, off, none⟩ ∧ w.cell? ⟨b, off + i, none⟩ = some (.bool (ni i))) :
    Calls Yba.prog 3 #[.slice a0 len0 cap0, .slice a1 len1 cap1, .slice a2 len2 cap2] w fun e w' => e = .returned (.bool true) ∧ Below w.heap.size w w' := by
  have HI : Hid (∀ i, i < len0 → ∃ b off, a0 = some ⟨b, off, none⟩ ∧ w.cell? ⟨b, off + i, none⟩ = some (.string (id i))) := hi
  have HS : Hid (∀ i, i < len1 → ∃ b off, a1 = some ⟨b, off, none⟩ ∧ w.cell? ⟨b, off + i, none⟩ = some (.string (st i))) := hs
  have HN : Hid (∀ i, i < len2 → ∃ b off, a2 = some ⟨b, off, none⟩ ∧ w.cell? ⟨b, off + i, none⟩ = some (.bool (ni i))) := hn
  clear hi hs hn
  have d0 : decide ((1024 : Int) < (len0 : Int)) = false := by rw [decide_eq_false_iff_not]; omega
  have d1 : decide ((1024 : Int) < (len1 : Int)) = false := by rw [decide_eq_false_iff_not]; omega
  have d2 : decide ((1024 : Int) < (len2 : Int)) = false := by rw [decide_eq_false_iff_not]; omega
  have hmk : (Instr.makeMap 24 none).run Yba.prog w = .ok (.map (some w.heap.size)) (w.alloc (.map #[] 0)) := by kernel_rfl
  go_enter Yba.func3, Yba.ntmps3
  go_wp2
  clear hmk
  have hm0 := MapIs.made w (Value.string)
  have hc0 := Chg.alloc (fun _ => False) w (.map #[] 0)
  generalize w.alloc (.map #[] 0) = w1 at *
  go_loopg [8] len1 (fun gk i wr => ∃ (t : Nat) (Lm : List (ByteArray × Value)), gk + t = len1 ∧ i = .int .i64 t ∧ MapIs wr w.heap.size Value.string Lm ∧ Says Lm (fun k => inuse st (fun i => decide (i < len2) && ni i) k t) ∧ Chg (fun _ => False) w wr)
  case atStart => exact ⟨0, [], rfl, rfl, hm0, says_nil _ _, hc0⟩
  case round =>
    obtain ⟨t, Lm, hgt, rfl, hm, hsay, hch⟩ := hrel
    by_cases hlt : t < len1
    · obtain ⟨b, off, rfl, hc⟩ := HS.out t hlt
      have hc' := hch.cell hc (fun h => h)
      clear hc
      have fin : ∀ W wn, Chg (fun _ => False) w W → Chg (fun i => i = w.heap.size) W wn → Chg (fun _ => False) w wn := fun W wn h1 h2 => h1.then h2 (fun i hi => Or.inr (by omega))
      have FIN : Hid (∀ W wn, Chg (fun _ => False) w W → Chg (fun i => i = w.heap.size) W wn → Chg (fun _ => False) w wn) := fin
      clear fin
      have hyes : ∀ o : Obj, (decide (t < len2) && ni t) = false → ∃ w', (Instr.mapUpdate 24 (.map (some w.heap.size)) (.string (st t)) (.pointer (some ⟨wr.heap.size, 0, none⟩))).run Yba.prog (wr.alloc o) = .ok () w' ∧ (∃ Lm', MapIs w' w.heap.size Value.string Lm' ∧ Says Lm' (fun k => inuse st (fun i => decide (i < len2) && ni i) k (t + 1))) ∧ Chg (fun i => i = w.heap.size) (wr.alloc o) w' :=
        fun o h => put_one (hm.kept (Chg.alloc (fun _ => False) wr o) (fun h => h)) hsay _ (Or.inr ⟨h, _, rfl⟩)
      have HY : Hid (∀ o : Obj, (decide (t < len2) && ni t) = false → ∃ w', (Instr.mapUpdate 24 (.map (some w.heap.size)) (.string (st t)) (.pointer (some ⟨wr.heap.size, 0, none⟩))).run Yba.prog (wr.alloc o) = .ok () w' ∧ (∃ Lm', MapIs w' w.heap.size Value.string Lm' ∧ Says Lm' (fun k => inuse st (fun i => decide (i < len2) && ni i) k (t + 1))) ∧ Chg (fun i => i = w.heap.size) (wr.alloc o) w') := hyes
      clear hyes
      by_cases hl2 : t < len2
      · obtain ⟨b2, off2, rfl, hc2⟩ := HN.out t hl2
        have hc2' := hch.cell hc2 (fun h => h)
        clear hc2
        cases hni : ni t
        · rw [hni] at hc2'
          obtain ⟨f, hf⟩ := Classical.skolem.1 (fun o => HY.out o (by simp [hni]))
          have HF : Hid (∀ o, (∃ Lm', MapIs (f o) w.heap.size Value.string Lm' ∧ Says Lm' (fun k => inuse st (fun i => decide (i < len2) && ni i) k (t + 1))) ∧ Chg (fun i => i = w.heap.size) (wr.alloc o) (f o)) := fun o => (hf o).2
          have hput := fun o => (hf o).1
          clear hf
          go_wp2
          go_roundg (len1 - (t + 1))
          case measure => omega
          case rel =>
            obtain ⟨⟨Lm', r1, r2⟩, r3⟩ := HF.out _
            exact ⟨t + 1, Lm', by omega, by go_num, r1, r2, FIN.out _ _ (hch.trans (Chg.alloc _ _ _)) r3⟩
        · rw [hni] at hc2'
          obtain ⟨w', hput, ⟨Lm', r1, r2⟩, r3⟩ := put_one hm hsay (.pointer none) (Or.inl ⟨by simp [hni, hl2], rfl⟩)
          go_wp2
          go_roundg (len1 - (t + 1))
          case measure => omega
          case rel => exact ⟨t + 1, Lm', by omega, by go_num, r1, r2, FIN.out _ _ hch r3⟩
      · obtain ⟨f, hf⟩ := Classical.skolem.1 (fun o => HY.out o (by simp [hl2]))
        have HF : Hid (∀ o, (∃ Lm', MapIs (f o) w.heap.size Value.string Lm' ∧ Says Lm' (fun k => inuse st (fun i => decide (i < len2) && ni i) k (t + 1))) ∧ Chg (fun i => i = w.heap.size) (wr.alloc o) (f o)) := fun o => (hf o).2
        have hput := fun o => (hf o).1
        clear hf
        go_wp2
        go_roundg (len1 - (t + 1))
        case measure => omega
        case rel =>
          obtain ⟨⟨Lm', r1, r2⟩, r3⟩ := HF.out _
          exact ⟨t + 1, Lm', by omega, by go_num, r1, r2, FIN.out _ _ (hch.trans (Chg.alloc _ _ _)) r3⟩
    · obtain rfl : t = len1 := by omega
      go_wp2_with fail
      obtain ⟨l1, l2, l3, l4, l5⟩ := laid wr w.heap.size (.slice a0 len0 cap0)
      unfold laidW at l1 l2 l3 l4 l5
      generalize ((((wr.alloc (Obj.cells #[Value.int IntKind.i32 0, Value.int IntKind.u32 0, Value.map (some w.heap.size), Value.map none, Value.map none, Value.map none, Value.int IntKind.u64 0, Value.int IntKind.u64 0] 59)).alloc
        (Obj.cells #[Value.pointer none, Value.map none, Value.slice none 0 0, Value.pointer (some { block := wr.heap.size, off := 0 }), Value.pointer none, Value.string { data := #[] }, Value.int IntKind.u64 0, Value.int IntKind.i32 0, Value.int IntKind.u32 0, Value.map none, Value.int IntKind.i32 0, Value.int IntKind.u32 0, Value.map none, Value.chan none] 72)).alloc
        (Obj.cells #[Value.pointer (some { block := wr.heap.size + 1, off := 0 }), Value.int IntKind.i64 0, Value.int IntKind.i64 0, Value.int IntKind.i64 0, Value.int IntKind.i64 0, Value.string { data := #[] }] 77)).alloc
        (Obj.cells #[Value.slice a0 len0 cap0] 88)) = w2 at *
      have hcw := hch.trans l5
      have hsz := hch.size
      refine Calls.mono (check_walk _ _ wr.heap.size _ w.heap.size a0 len0 cap0 id Lm _ w2 h0 l3 l2 l1 (by omega) l4 (hm.kept l5 (fun h => h)) hsay (fun i hi => by obtain ⟨b, off, e, hc⟩ := HI.out i hi; have hb := block_lt_of_cell hc; simp at hb; exact ⟨b, off, e, by omega, hcw.cell hc (fun h => h)⟩)) ?_
      rintro e w3 ⟨db, sl, hdb, rfl, hd, hown, hch3⟩
      have hc3 : Chg (fun _ => False) w w3 := hcw.then hch3 (fun i hi => Or.inr (by omega))
      have hsz2 := hcw.size
      clear l1 l2 l3 l4 l5 hch3 hm hsay hch hcw
      have hta := assertCheck db
      obtain ⟨sa, sc, rfl⟩ := len_of hown
      have cd0 : w3.cell? ⟨db, 0, none⟩ = some (.string { data := #[99, 111, 110, 116, 97, 99, 116] }) := by rw [cell_of_row _ _ _ _ _ _ hd]; rfl
      have cd1 : w3.cell? ⟨db, 1, none⟩ = some (.slice sa len0 sc) := by rw [cell_of_row _ _ _ _ _ _ hd]; rfl
      have hdl : db < w3.heap.size := lt_of_block hd
      have HU : Hid (∀ k, (fun k => inuse st (fun i => decide (i < len2) && ni i) k t) k = inuse st (fun i => decide (i < len2) && ni i) k t) := fun _ => rfl
      generalize hu : (fun k => inuse st (fun i => decide (i < len2) && ni i) k t) = u at *
      go_wp2
      have hd4 := (Chg.alloc (fun _ => False) w3 (Obj.cells #[Value.int IntKind.i64 1000, Value.string { data := #[] }, Value.iface 89 (Value.pointer (some { block := db, off := 0 })), Value.pointer none, Value.slice none 0 0, Value.bool false] 84)).at hd (fun h => h)
      have ho4 := (Chg.alloc (fun _ => False) w3 (Obj.cells #[Value.int IntKind.i64 1000, Value.string { data := #[] }, Value.iface 89 (Value.pointer (some { block := db, off := 0 })), Value.pointer none, Value.slice none 0 0, Value.bool false] 84)).ownsRow hown (fun _ _ h => h)
      have hc4 := hc3.trans (Chg.alloc (fun _ => False) w3 (Obj.cells #[Value.int IntKind.i64 1000, Value.string { data := #[] }, Value.iface 89 (Value.pointer (some { block := db, off := 0 })), Value.pointer none, Value.slice none 0 0, Value.bool false] 84))
      clear cd0 cd1 hdl hd hown hc3
      generalize w3.alloc (Obj.cells #[Value.int IntKind.i64 1000, Value.string { data := #[] }, Value.iface 89 (Value.pointer (some { block := db, off := 0 })), Value.pointer none, Value.slice none 0 0, Value.bool false] 84) = w4 at *
      go_loopg [13] len0 (fun gk i wx => ∃ j : Nat, gk + j = len0 ∧ i = .int .i64 j ∧ wx.heap[db]? = some (.cells #[.string { data := #[99, 111, 110, 116, 97, 99, 116] }, .slice sa len0 sc] 93 (0, 0)) ∧ wx.ownsRow (db + 1) 95 3 (.slice sa len0 sc) len0 (items id u len0) ∧ Chg (fun _ => False) w wx)
      case atStart => exact ⟨0, rfl, rfl, hd4, ho4, hc4⟩
      case round =>
        obtain ⟨j, hgj, rfl, hdx, hox, hcx⟩ := hrel
        by_cases hlj : j < len0
        · obtain ⟨b, off, rfl, hc⟩ := HI.out j hlj
          have ci := hcx.cell hc (fun h => h)
          clear hc
          obtain ⟨g, cap, cur, hf, hf1, hf2, hf3, hf4, -⟩ := ownsRow_form hox (by omega)
          simp only [Value.slice.injEq] at hf
          obtain ⟨rfl, -, rfl⟩ := hf
          have i0 : wr.cell? ⟨g, j * 3, none⟩ = some (.string (id j)) := ownsRow_cell hox ((items_at id u len0 j hlj 0 (by omega)).trans rfl)
          have i1 : wr.cell? ⟨g, j * 3 + 1, none⟩ = some (.bool (!u (id j))) := ownsRow_cell hox ((items_at id u len0 j hlj 1 (by omega)).trans rfl)
          have i2 : wr.cell? ⟨g, j * 3 + 2, none⟩ = some (.string (reason (u (id j)))) := ownsRow_cell hox ((items_at id u len0 j hlj 2 (by omega)).trans rfl)
          have cd1 : wr.cell? ⟨db, 1, none⟩ = some (.slice (some ⟨g, 0, none⟩) len0 sc) := by rw [cell_of_row _ _ _ _ _ _ hdx]; rfl
          have hbl : b < wr.heap.size := block_lt_of_cell ci
          have huj : inuse st (fun i => decide (i < len2) && ni i) (id j) t = u (id j) := by rw [← hu]
          have HUJ : Hid (inuse st (fun i => decide (i < len2) && ni i) (id j) t = u (id j)) := huj
          clear hf1 hf2 hf4 huj
          cases hb : u (id j)
          · rw [hb, Bool.not_false] at i1
            rw [hb, reason, if_neg (by simp)] at i2
            go_wp2
            have kk := Chg.alloc (fun _ => False) wr (Obj.cells #[Value.string (id j), Value.bool true, Value.string { data := #[] }] 95)
            have rr := heap_alloc_new wr (Obj.cells #[Value.string (id j), Value.bool true, Value.string { data := #[] }] 95)
            have ci5 := kk.cell ci (fun h => h)
            have hd5 := kk.at hdx (fun h => h)
            have ho5 := kk.ownsRow hox (fun _ _ h => h)
            have hc5 := hcx.trans kk
            clear i0 i1 i2 cd1 ci kk hdx hox hcx hbl
            generalize wr.alloc (Obj.cells #[Value.string (id j), Value.bool true, Value.string { data := #[] }] 95) = w5 at *
            generalize wr.heap.size = nb at *
            have e0 : w5.cell? ⟨nb, 0, none⟩ = some (.string (id j)) := by rw [cell_of_row _ _ _ _ _ _ rr]; rfl
            have e1 : w5.cell? ⟨nb, 1, none⟩ = some (.bool true) := by rw [cell_of_row _ _ _ _ _ _ rr]; rfl
            have e2 : w5.cell? ⟨nb, 2, none⟩ = some (.string { data := #[] }) := by rw [cell_of_row _ _ _ _ _ _ rr]; rfl
            go_quiet (fail)
            go_wp2_with fail
            refine Calls.mono (inuse_walk a1 t cap1 a2 len2 cap2 st ni (id j) (w5.drewN nq) h1 h2 (fun i hi => by obtain ⟨b, off, e, hc⟩ := HS.out i hi; exact ⟨b, off, e, (hc5.trans (Chg.drewN _ _ _)).cell hc (fun h => h)⟩) (fun i hi => by obtain ⟨b, off, e, hc⟩ := HN.out i hi; exact ⟨b, off, e, (hc5.trans (Chg.drewN _ _ _)).cell hc (fun h => h)⟩)) ?_
            rintro e w6 ⟨rfl, rfl⟩
            rw [HUJ.out, hb]
            go_wp2
            go_roundg (len0 - (j + 1))
            case measure => omega
            case rel => exact ⟨j + 1, by omega, by go_num, (Chg.drewN (fun _ => False) _ _).at hd5 (fun h => h), (Chg.drewN (fun _ => False) _ _).ownsRow ho5 (fun _ _ h => h), hc5.trans (Chg.drewN _ _ _)⟩
          · rw [hb, Bool.not_true] at i1
            rw [hb, reason, if_pos rfl] at i2
            go_wp2
            have kk := Chg.alloc (fun _ => False) wr (Obj.cells #[Value.string (id j), Value.bool false, Value.string { data := #[105, 110, 32, 117, 115, 101] }] 95)
            have rr := heap_alloc_new wr (Obj.cells #[Value.string (id j), Value.bool false, Value.string { data := #[105, 110, 32, 117, 115, 101] }] 95)
            have ci5 := kk.cell ci (fun h => h)
            have hd5 := kk.at hdx (fun h => h)
            have ho5 := kk.ownsRow hox (fun _ _ h => h)
            have hc5 := hcx.trans kk
            clear i0 i1 i2 cd1 ci kk hdx hox hcx hbl
            generalize wr.alloc (Obj.cells #[Value.string (id j), Value.bool false, Value.string { data := #[105, 110, 32, 117, 115, 101] }] 95) = w5 at *
            generalize wr.heap.size = nb at *
            have e0 : w5.cell? ⟨nb, 0, none⟩ = some (.string (id j)) := by rw [cell_of_row _ _ _ _ _ _ rr]; rfl
            have e1 : w5.cell? ⟨nb, 1, none⟩ = some (.bool false) := by rw [cell_of_row _ _ _ _ _ _ rr]; rfl
            have e2 : w5.cell? ⟨nb, 2, none⟩ = some (.string { data := #[105, 110, 32, 117, 115, 101] }) := by rw [cell_of_row _ _ _ _ _ _ rr]; rfl
            go_quiet (fail)
            go_wp2_with fail
            refine Calls.mono (inuse_walk a1 t cap1 a2 len2 cap2 st ni (id j) (w5.drewN nq) h1 h2 (fun i hi => by obtain ⟨b, off, e, hc⟩ := HS.out i hi; exact ⟨b, off, e, (hc5.trans (Chg.drewN _ _ _)).cell hc (fun h => h)⟩) (fun i hi => by obtain ⟨b, off, e, hc⟩ := HN.out i hi; exact ⟨b, off, e, (hc5.trans (Chg.drewN _ _ _)).cell hc (fun h => h)⟩)) ?_
            rintro e w6 ⟨rfl, rfl⟩
            rw [HUJ.out, hb]
            go_wp2
            go_roundg (len0 - (j + 1))
            case measure => omega
            case rel => exact ⟨j + 1, by omega, by go_num, (Chg.drewN (fun _ => False) _ _).at hd5 (fun h => h), (Chg.drewN (fun _ => False) _ _).ownsRow ho5 (fun _ _ h => h), hc5.trans (Chg.drewN _ _ _)⟩
        · obtain rfl : j = len0 := by omega
          go_wp2
          go_ret
          exact ⟨rfl, hcx.below (Nat.le_refl _) (fun _ h => h.elim)⟩
end Go.Proofs.Ybulkamru
