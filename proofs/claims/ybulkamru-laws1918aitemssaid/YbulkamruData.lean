/-
  OUR OWN. LawS1918AItems: 'checkData' (8), walked over a map that says which ids are in use.
-/
import Derived.Test.YbulkamruLook
namespace Go.Proofs.Ybulkamru
open Go.RowKit
set_option linter.unusedVariables false
set_option linter.unusedSimpArgs false

theorem Chg.cell {S : Nat → Prop} {w w' : World} (h : Chg S w w') {b o : Nat} {v : Value} (hc : w.cell? ⟨b, o, none⟩ = some v) (hs : ¬ S b) : w'.cell? ⟨b, o, none⟩ = some v := by
  have hb : b < w.heap.size := block_lt_of_cell hc
  have := h.block b hb hs
  unfold World.cell? at hc ⊢
  rw [this]
  exact hc

/-- The map says of every key whether it is in use. -/
structure Says (Lm : List (ByteArray × Value)) (u : ByteArray → Bool) : Prop where
  keys : (Lm.map (·.1)).Nodup
  mem : ∀ k v, (k, v) ∈ Lm → (u k = false ∧ v = .pointer none) ∨ (u k = true ∧ ∃ b, v = .pointer (some ⟨b, 0, none⟩))
  out : ∀ k, (∀ p ∈ Lm, p.1 ≠ k) → u k = false

theorem ask {w : World} {vb pb mb : Nat} {Lm : List (ByteArray × Value)} {u : ByteArray → Bool} (hm : MapIs w mb Value.string Lm) (hs : Says Lm u)
    (c0 : w.cell? ⟨vb, 0, none⟩ = some (.pointer (some ⟨pb, 0, none⟩))) (c1 : w.cell? ⟨pb, 2, none⟩ = some (.map (some mb))) (id : ByteArray) :
    Calls Yba.prog 9 #[.string id, .pointer (some ⟨vb, 0, none⟩)] w fun e w' => e = .returned (.string (reason (u id))) ∧ w = w' := by
  by_cases h : ∃ v, (id, v) ∈ Lm
  · obtain ⟨v, hv⟩ := h
    have hl := hm.look_hit (stringKey Yba.underlying9) Yba.underlying24 id v hs.keys hv false
    rcases hs.mem id v hv with ⟨hu, rfl⟩ | ⟨hu, b, rfl⟩
    · rw [hu]; exact look_no vb pb mb id w c0 c1 hl
    · rw [hu]; exact look_yes vb pb mb id w b 0 c0 c1 hl
  · have hno : ∀ p ∈ Lm, p.1 ≠ id := fun p hp e => h ⟨p.2, by rw [← e]; exact hp⟩
    have hl := hm.look_miss (stringKey Yba.underlying9) Yba.underlying24 (z := .pointer none) (by kernel_rfl) id hno false
    rw [hs.out id hno]
    exact look_no vb pb mb id w c0 c1 hl

def item (id : Nat → ByteArray) (u : ByteArray → Bool) (i : Nat) : List Value := [.string (id i), .bool (!u (id i)), .string (reason (u (id i)))]
def items (id : Nat → ByteArray) (u : ByteArray → Bool) : Nat → List Value
  | 0 => []
  | t + 1 => items id u t ++ item id u t
theorem items_len (id : Nat → ByteArray) (u : ByteArray → Bool) : ∀ t, (items id u t).length = t * 3
  | 0 => rfl
  | t + 1 => by simp [items, item, items_len id u t]; omega
theorem items_at (id : Nat → ByteArray) (u : ByteArray → Bool) : ∀ t i, i < t → ∀ j, j < 3 → (items id u t)[i * 3 + j]? = (item id u i)[j]?
  | 0, _, h, _, _ => by omega
  | t + 1, i, h, j, hj => by
    unfold items
    by_cases e : i = t
    · subst e
      rw [List.getElem?_append_right (by rw [items_len]; omega), items_len]
      congr 1; omega
    · rw [List.getElem?_append_left (by rw [items_len]; omega)]
      exact items_at id u t i (by omega) j hj
theorem info95 : (Yba.prog.info? 95).map (fun i => (i.zero, i.size, i.bytes)) = some (some (.agg #[.string { data := #[] }, .bool false, .string { data := #[] }]), 3, 40) := by kernel_rfl

theorem len_of {w : World} {base : Nat} {e : TypeId} {size : Nat} {v : Value} {n : Nat} {xs : List Value} (ho : w.ownsRow base e size v n xs) : ∃ a c, v = .slice a n c := by
  rcases ho.2 with ⟨rfl, rfl⟩ | ⟨g, cap, cur, rfl, _⟩
  · exact ⟨none, 0, rfl⟩
  · exact ⟨_, _, rfl⟩
theorem info_cut {P : Program} {e : TypeId} {z : Value} {s b : Nat} (h : (P.info? e).map (fun i => (i.zero, i.size, i.bytes)) = some (some z, s, b)) : ∃ i, P.info? e = some i ∧ i.zero = some z ∧ i.size = s ∧ i.bytes = b := by
  cases hi : P.info? e with
  | none => rw [hi] at h; cases h
  | some i => rw [hi] at h; simp at h; exact ⟨i, rfl, h.1, h.2.1, h.2.2⟩
/-- 'append(s, x)' where s is a row of the call's own and x was just laid. -/
theorem wpList_append_new {P : Program} {ops : Array Oper} {rest : List Oper} {o : Oper} {a : Act} {w : World} {Q : Exit → Act → World → Prop} (hgd : o.guard = none) (s x : Operand) (t : TypeId)
    (ho : o.op = .call { callee := .builtin .append, args := #[s, x], argTypes := #[t, t] })
    (base : Nat) (e : TypeId) (z : Value) (size bytes : Nat) (info : (P.info? e).map (fun i => (i.zero, i.size, i.bytes)) = some (some z, size, bytes)) (hz : z.cells.size = size) (hsz : 0 < size) (ht : P.underlying t = some (.slice e))
    (v : Value) (n : Nat) (xs : List Value) (hs : a.eval s = v) (hown : w.ownsRow base e size v n xs) (nb c : Nat) (news : List Value) (hx : a.eval x = .slice (some ⟨nb, 0, none⟩) 1 c) (hl : news.length = size)
    (hnew : w.heap[nb]? = some (.cells news.toArray e (0, 0))) (h1 : ∀ u ∈ news, u.oneCell' = true) (hn : n ≤ 1000000) (hby : bytes ≤ 1000) (hbase : base ≤ w.heap.size)
    (h : ∀ g cap w', w'.ownsRow base e size (.slice (some ⟨g, 0, none⟩) (n + 1) cap) (n + 1) (xs ++ news) → Chg (fun i => v.ownBlock = some i) w w' → (v.ownBlock = some g ∨ g = w.heap.size) → wpList P ops Q rest (a.put o.dst (.slice (some ⟨g, 0, none⟩) (n + 1) cap)) w') : wpList P ops Q (o :: rest) a w := by
  obtain ⟨i0, hi, hz0, hz1, hz2⟩ := info_cut info
  refine wpList_append_own_at w hgd s x t ho base e i0 z size bytes ht hi hz0 hz1 hz2 hz hsz v n xs hs hown ⟨nb, 0, none⟩ 1 c news hx (by rw [hl]; omega) ?_ h1 (by unfold maxLen; omega) ?_ hbase ?_
  · intro j u hj
    have e : (⟨nb, 0, none⟩ : Addr).add j = ⟨nb, j, none⟩ := by unfold Addr.add; split <;> simp_all
    rw [e, cell_of_row _ _ _ _ _ _ hnew]
    simpa using hj
  · have : (n + 1) * bytes ≤ 1000001 * 1000 := Nat.mul_le_mul (by omega) hby
    omega
  · intro v' w' r1 r2 _ r4
    obtain ⟨g, cap, cur, rfl, _⟩ := ownsRow_form r1 (by omega)
    refine h g cap w' r1 (Chg.grown r2 (fun k hk => hk)) ?_
    rcases r4 with r4 | r4
    · exact Or.inl (by rw [← r4]; rfl)
    · exact Or.inr (by simpa [Value.ownBlock] using r4)

set_option maxRecDepth 20000 in
set_option maxHeartbeats 800000 in
theorem data_walk (vb pb mb : Nat) (a0 : Option Addr) (len0 cap0 : Nat) (id : Nat → ByteArray) (Lm : List (ByteArray × Value)) (u : ByteArray → Bool) (w : World) (hlen : len0 ≤ 1024)
    (hm : MapIs w mb Value.string Lm) (hs : Says Lm u) (c0 : w.cell? ⟨vb, 0, none⟩ = some (.pointer (some ⟨pb, 0, none⟩))) (c1 : w.cell? ⟨pb, 2, none⟩ = some (.map (some mb)))
    (hid : ∀ i, i < len0 → ∃ b off, a0 = some ⟨b, off, none⟩ ∧ w.cell? ⟨b, off + i, none⟩ = some (.string (id i))) :
    Calls Yba.prog 8 #[.string { data := #[99, 111, 110, 116, 97, 99, 116] }, .slice a0 len0 cap0, .func (.func 9) #[] #[.pointer (some ⟨vb, 0, none⟩)]] w fun e w' =>
      e = .returned (.pointer (some ⟨w.heap.size, 0, none⟩)) ∧ ∃ sl, w'.heap[w.heap.size]? = some (.cells #[.string { data := #[99, 111, 110, 116, 97, 99, 116] }, sl] 93 (0, 0)) ∧
        w'.ownsRow (w.heap.size + 1) 95 3 sl len0 (items id u len0) ∧ Chg (fun _ => False) w w' := by
  have HID : Hid (∀ i, i < len0 → ∃ b off, a0 = some ⟨b, off, none⟩ ∧ w.cell? ⟨b, off + i, none⟩ = some (.string (id i))) := hid
  have HM : Hid (MapIs w mb Value.string Lm) := hm
  have HC0 : Hid (w.cell? ⟨vb, 0, none⟩ = some (.pointer (some ⟨pb, 0, none⟩))) := c0
  have HC1 : Hid (w.cell? ⟨pb, 2, none⟩ = some (.map (some mb))) := c1
  clear hid hm c0 c1
  go_enter Yba.func8, Yba.ntmps8
  go_wp2
  have hrow0 := heap_alloc_new w (.cells #[.string { data := #[99, 111, 110, 116, 97, 99, 116] }, .slice none 0 0] 93 (0, 0))
  have hch0 := Chg.alloc (fun _ => False) w (.cells #[.string { data := #[99, 111, 110, 116, 97, 99, 116] }, .slice none 0 0] 93 (0, 0))
  generalize hW : w.alloc (.cells #[.string { data := #[99, 111, 110, 116, 97, 99, 116] }, .slice none 0 0] 93 (0, 0)) = w1 at *
  have hsz1 : w.heap.size < w1.heap.size := lt_of_block hrow0
  clear hW
  generalize hdb : w.heap.size = db at *
  have HDB : Hid (w.heap.size = db) := hdb
  clear hdb
  go_loopg [16] len0 (fun gk i wr => ∃ (t : Nat) (sl : Value), gk + t = len0 ∧ i = .int .i64 t ∧ wr.heap[db]? = some (.cells #[.string { data := #[99, 111, 110, 116, 97, 99, 116] }, sl] 93 (0, 0)) ∧ wr.ownsRow (db + 1) 95 3 sl t (items id u t) ∧ Chg (fun _ => False) w wr)
  case atStart => exact ⟨0, .slice none 0 0, rfl, rfl, hrow0, World.ownsRow_nil _ _ _ _, hch0⟩
  case round =>
    obtain ⟨t, sl, hgt, rfl, hrow, hown, hch⟩ := hrel
    by_cases hlt : t < len0
    · obtain ⟨b, off, rfl, hc⟩ := HID.out t hlt
      have hc' := hch.cell hc (fun h => h)
      have hask := ask (HM.out.kept hch (fun h => h)) hs (hch.cell HC0.out (fun h => h)) (hch.cell HC1.out (fun h => h)) (id t)
      obtain ⟨sa, sc, rfl⟩ := len_of hown
      have cd : wr.cell? ⟨db, 1, none⟩ = some (.slice sa t sc) := by rw [cell_of_row _ _ _ _ _ _ hrow]; rfl
      have fd := frozen_of_row _ db 1 _ _ hrow
      have hdl : db < wr.heap.size := lt_of_block hrow
      have hit : items id u (t + 1) = items id u t ++ [.string (id t), .bool (!u (id t)), .string (reason (u (id t)))] := rfl
      have HIT : Hid (items id u (t + 1) = items id u t ++ [.string (id t), .bool (!u (id t)), .string (reason (u (id t)))]) := hit
      have hne : ∀ k, (Value.slice sa t sc).ownBlock = some k → db ≠ k := fun k hk e => by have := (hown.lt k hk).1; omega
      have HNE : Hid (∀ k, (Value.slice sa t sc).ownBlock = some k → db ≠ k) := hne
      clear hc hit hne
      cases hu : u (id t)
      · rw [hu, reason, if_neg (by simp)] at hask
        go_wp2_with fail
        refine Calls.mono hask ?_
        rintro e w2 ⟨rfl, rfl⟩
        clear hask
        go_wp2_with (first
          | (at_builtin; refine wpList_append_new rfl (.tmp 27) (.tmp 33) 91 rfl (db + 1) 95 _ 3 40 info95 rfl (by decide) Yba.underlying91 (.slice sa t sc) t _ rfl (hown.alloc _) wr.heap.size 1 [.string (id t), .bool true, .string { data := #[] }] rfl rfl (heap_alloc_new wr _) (by simp [Value.oneCell']) (by omega) (by omega) (by simp; omega) ?_; intro g cap w3 ho3 hc3 hg3; have hrow3 := hc3.at ((Chg.alloc (fun _ => False) wr _).at hrow (fun h => h)) (fun h => HNE.out _ h rfl); have cd3 : w3.cell? ⟨db, 1, none⟩ = some (.slice sa t sc) := by rw [cell_of_row _ _ _ _ _ _ hrow3]; rfl
             have fd3 := frozen_of_row _ db 1 _ _ hrow3))
        go_roundg (len0 - (t + 1))
        case measure => omega
        case rel =>
          refine ⟨t + 1, .slice (some ⟨g, 0, none⟩) (t + 1) cap, by omega, by go_num, heap_setCell_same w3 db 1 _ _ _ hrow3, ?_, ?_⟩
          · rw [HIT.out, hu]
            exact (Chg.setCell (fun i => i = db) w3 ⟨db, 1, none⟩ _ rfl).ownsRow ho3 (fun k hk e => by have := (ho3.lt k hk).1; omega)
          · exact Chg.then (Chg.then (Chg.then hch (Chg.alloc (fun _ => False) wr _) (fun _ h => h.elim)) hc3 (fun i hi => Or.inr (by have := (hown.lt i hi).1; rw [HDB.out]; omega))) (Chg.setCell (fun i => i = db) w3 ⟨db, 1, none⟩ _ rfl) (fun i hi => Or.inr (by rw [HDB.out]; omega))
      · rw [hu, reason, if_pos rfl] at hask
        go_wp2_with fail
        refine Calls.mono hask ?_
        rintro e w2 ⟨rfl, rfl⟩
        clear hask
        go_wp2_with (first
          | (at_builtin; refine wpList_append_new rfl (.tmp 27) (.tmp 33) 91 rfl (db + 1) 95 _ 3 40 info95 rfl (by decide) Yba.underlying91 (.slice sa t sc) t _ rfl (hown.alloc _) wr.heap.size 1 [.string (id t), .bool false, .string { data := #[105, 110, 32, 117, 115, 101] }] rfl rfl (heap_alloc_new wr _) (by simp [Value.oneCell']) (by omega) (by omega) (by simp; omega) ?_; intro g cap w3 ho3 hc3 hg3; have hrow3 := hc3.at ((Chg.alloc (fun _ => False) wr _).at hrow (fun h => h)) (fun h => HNE.out _ h rfl); have cd3 : w3.cell? ⟨db, 1, none⟩ = some (.slice sa t sc) := by rw [cell_of_row _ _ _ _ _ _ hrow3]; rfl
             have fd3 := frozen_of_row _ db 1 _ _ hrow3))
        go_roundg (len0 - (t + 1))
        case measure => omega
        case rel =>
          refine ⟨t + 1, .slice (some ⟨g, 0, none⟩) (t + 1) cap, by omega, by go_num, heap_setCell_same w3 db 1 _ _ _ hrow3, ?_, ?_⟩
          · rw [HIT.out, hu]
            exact (Chg.setCell (fun i => i = db) w3 ⟨db, 1, none⟩ _ rfl).ownsRow ho3 (fun k hk e => by have := (ho3.lt k hk).1; omega)
          · exact Chg.then (Chg.then (Chg.then hch (Chg.alloc (fun _ => False) wr _) (fun _ h => h.elim)) hc3 (fun i hi => Or.inr (by have := (hown.lt i hi).1; rw [HDB.out]; omega))) (Chg.setCell (fun i => i = db) w3 ⟨db, 1, none⟩ _ rfl) (fun i hi => Or.inr (by rw [HDB.out]; omega))
    · obtain rfl : t = len0 := by omega
      go_wp2
      go_ret
      rw [HDB.out]
      exact ⟨rfl, sl, hrow, hown, hch⟩
end Go.Proofs.Ybulkamru
