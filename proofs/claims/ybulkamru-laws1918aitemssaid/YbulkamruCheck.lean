/-
  OUR OWN. LawS1918AItems: 'checkContacts' (4), the mutex and the deferred unlock with it.
-/
import Derived.Test.YbulkamruData
namespace Go.Proofs.Ybulkamru
open Go.RowKit Go.MuLone
set_option linter.unusedVariables false
set_option linter.unusedSimpArgs false

theorem Chg.put {b o : Nat} {w w' : World} (h : Chg (fun i => i = b) w w') (v : Value) : Chg (fun i => i = b) w (w'.setCell ⟨b, o, none⟩ v) := h.trans (Chg.setCell _ _ _ _ rfl)
abbrev repoRow (mb : Nat) (l : Int) : Obj := .cells #[.int .i32 l, .int .u32 0, .map (some mb), .map none, .map none, .map none, .int .u64 0, .int .u64 0] 59 (0, 0)

set_option maxRecDepth 20000 in
set_option maxHeartbeats 800000 in
theorem check_walk (sb vb pb ob mb : Nat) (a0 : Option Addr) (len0 cap0 : Nat) (id : Nat → ByteArray) (Lm : List (ByteArray × Value)) (u : ByteArray → Bool) (w : World) (hlen : len0 ≤ 1024)
    (cs : w.cell? ⟨sb, 0, none⟩ = some (.pointer (some ⟨vb, 0, none⟩)))
    (cv : w.cell? ⟨vb, 3, none⟩ = some (.pointer (some ⟨pb, 0, none⟩)))
    (hp : w.heap[pb]? = some (repoRow mb 0)) (hop : ob ≠ pb)
    (co : w.cell? ⟨ob, 0, none⟩ = some (.slice a0 len0 cap0))
    (hm : MapIs w mb Value.string Lm) (hs : Says Lm u)
    (hid : ∀ i, i < len0 → ∃ b off, a0 = some ⟨b, off, none⟩ ∧ b ≠ pb ∧ w.cell? ⟨b, off + i, none⟩ = some (.string (id i))) :
    Calls Yba.prog 4 #[.pointer (some ⟨sb, 0, none⟩), .pointer (some ⟨ob, 0, none⟩)] w fun e w' => ∃ db sl, w.heap.size ≤ db ∧
      e = .returned (.agg #[.int .i64 1000, .string { data := #[] }, .iface 89 (.pointer (some ⟨db, 0, none⟩)), .pointer none, .slice none 0 0, .bool false]) ∧
      w'.heap[db]? = some (.cells #[.string { data := #[99, 111, 110, 116, 97, 99, 116] }, sl] 93 (0, 0)) ∧ w'.ownsRow (db + 1) 95 3 sl len0 (items id u len0) ∧ Chg (fun i => i = pb) w w' := by
  have hsb : sb < w.heap.size := block_lt_of_cell cs
  have hvb : vb < w.heap.size := block_lt_of_cell cv
  have hpb : pb < w.heap.size := lt_of_block hp
  have hob : ob < w.heap.size := block_lt_of_cell co
  have hmb : mb ≠ pb := fun e => by rw [e] at hm; exact hm.notCells hp
  have HID : Hid (∀ i, i < len0 → ∃ b off, a0 = some ⟨b, off, none⟩ ∧ b ≠ pb ∧ w.cell? ⟨b, off + i, none⟩ = some (.string (id i))) := hid
  have HM : Hid (MapIs w mb Value.string Lm) := hm
  clear hid hm
  go_enter_defers Yba.func4, Yba.ntmps4
  go_wp2_with fail
  have hrr := (Chg.alloc (fun _ => False) (w.alloc (Obj.cells #[Value.int IntKind.i64 0, Value.string { data := #[] }, Value.nilIface, Value.pointer none, Value.slice none 0 0, Value.bool false] 84)) (Obj.cells #[Value.pointer (some { block := pb, off := 0 })] 47)).at (heap_alloc_new w _) (fun h => h)
  have hch1 : Chg (fun _ => False) w _ := (Chg.alloc (fun _ => False) w (Obj.cells #[Value.int IntKind.i64 0, Value.string { data := #[] }, Value.nilIface, Value.pointer none, Value.slice none 0 0, Value.bool false] 84)).trans (Chg.alloc (fun _ => False) _ (Obj.cells #[Value.pointer (some { block := pb, off := 0 })] 47))
  have hv := heap_alloc_new (w.alloc (Obj.cells #[Value.int IntKind.i64 0, Value.string { data := #[] }, Value.nilIface, Value.pointer none, Value.slice none 0 0, Value.bool false] 84)) (Obj.cells #[Value.pointer (some { block := pb, off := 0 })] 47)
  rw [World.size_alloc] at hv
  generalize (w.alloc (Obj.cells #[Value.int IntKind.i64 0, Value.string { data := #[] }, Value.nilIface, Value.pointer none, Value.slice none 0 0, Value.bool false] 84)).alloc (Obj.cells #[Value.pointer (some { block := pb, off := 0 })] 47) = w1 at *
  have hp1 := hch1.at hp (fun h => h)
  have c0' : w1.cell? ⟨pb, 0, none⟩ = some (.int .i32 0) := by rw [cell_of_row _ _ _ _ _ _ hp1]; rfl
  have f0' : w1.frozen? ⟨pb, 0, none⟩ = false := frozen_of_row _ _ _ _ _ hp1
  refine (lock_free Yba.muLib ⟨pb, 0, none⟩ _ c0' f0').mono ?_
  rintro e w' ⟨rfl, rfl⟩
  have hch2 : Chg (fun i => i = pb) w1 (w1.setCell ⟨pb, 0, none⟩ (.int .i32 1)) := Chg.setCell _ _ _ _ rfl
  have hp2 : (w1.setCell ⟨pb, 0, none⟩ (.int .i32 1)).heap[pb]? = some (repoRow mb 1) := heap_setCell_same w1 pb 0 _ _ _ hp1
  generalize w1.setCell ⟨pb, 0, none⟩ (.int .i32 1) = w2 at *
  have hn1 : ¬ w.heap.size + 1 = pb := by omega
  have hn0 : ¬ w.heap.size = pb := by omega
  have hv2 := hch2.at hv hn1
  have hr2 := hch2.at hrr hn0
  have ch : Chg (fun i => i = pb) w w2 := (hch1.mono (fun _ h => h.elim)).trans hch2
  have co2 := ch.cell co hop
  have cv2 : w2.cell? ⟨w.heap.size + 1, 0, none⟩ = some (.pointer (some ⟨pb, 0, none⟩)) := by rw [cell_of_row _ _ _ _ _ _ hv2]; rfl
  have cm2 : w2.cell? ⟨pb, 2, none⟩ = some (.map (some mb)) := by rw [cell_of_row _ _ _ _ _ _ hp2]; rfl
  have hsz2 : w.heap.size + 1 < w2.heap.size := lt_of_block hv2
  clear hch1 hch2 hrr hv hp1 c0' f0' cs cv co
  have hdata := data_walk (w.heap.size + 1) pb mb a0 len0 cap0 id Lm u w2 hlen (HM.out.kept ch hmb) hs cv2 cm2 (fun i hi => by obtain ⟨b, off, h1, h2, h3⟩ := HID.out i hi; exact ⟨b, off, h1, ch.cell h3 h2⟩)
  go_wp2_with fail
  refine Calls.mono hdata ?_
  rintro e w3 ⟨rfl, sl, hd, hown, hch3⟩
  have hr3 := hch3.at hr2 (fun h => h)
  have hp3 := hch3.at hp2 (fun h => h)
  have hne : w.heap.size ≠ w2.heap.size := by omega
  have q0 : w3.cell? ⟨w.heap.size, 0, none⟩ = some (.int .i64 0) := by rw [cell_of_row _ _ _ _ _ _ hr3]; rfl
  have q1 : w3.cell? ⟨w.heap.size, 1, none⟩ = some (.string { data := #[] }) := by rw [cell_of_row _ _ _ _ _ _ hr3]; rfl
  have q2 : w3.cell? ⟨w.heap.size, 2, none⟩ = some .nilIface := by rw [cell_of_row _ _ _ _ _ _ hr3]; rfl
  have q3 : w3.cell? ⟨w.heap.size, 3, none⟩ = some (.pointer none) := by rw [cell_of_row _ _ _ _ _ _ hr3]; rfl
  have q4 : w3.cell? ⟨w.heap.size, 4, none⟩ = some (.slice none 0 0) := by rw [cell_of_row _ _ _ _ _ _ hr3]; rfl
  have q5 : w3.cell? ⟨w.heap.size, 5, none⟩ = some (.bool false) := by rw [cell_of_row _ _ _ _ _ _ hr3]; rfl
  have fz : ∀ o, w3.frozen? ⟨w.heap.size, o, none⟩ = false := fun o => frozen_of_row _ _ _ _ _ hr3
  have p0 : w3.cell? ⟨pb, 0, none⟩ = some (.int .i32 1) := by rw [cell_of_row _ _ _ _ _ _ hp3]; rfl
  have pf : w3.frozen? ⟨pb, 0, none⟩ = false := frozen_of_row _ _ _ _ _ hp3
  clear hdata
  go_wp2
  have hch4 : Chg (fun i => i = w.heap.size) w3 ((((((((w3.setCell { block := w.heap.size, off := 0 } (Value.int IntKind.i64 0)).setCell { block := w.heap.size, off := 1 } (Value.string { data := #[] })).setCell { block := w.heap.size, off := 2 } Value.nilIface).setCell { block := w.heap.size, off := 3 } (Value.pointer none)).setCell { block := w.heap.size, off := 4 } (Value.slice none 0 0)).setCell { block := w.heap.size, off := 5 } (Value.bool false)).setCell { block := w.heap.size, off := 0 } (Value.int IntKind.i64 1000)).setCell { block := w.heap.size, off := 2 } (Value.iface 89 (Value.pointer (some { block := w2.heap.size, off := 0 })))) :=
    Chg.put (Chg.put (Chg.put (Chg.put (Chg.put (Chg.put (Chg.put (Chg.put (Chg.rfl' _ w3) _) _) _) _) _) _) _) _
  have hr4 := heap_setCell_same _ w.heap.size 2 _ _ (Value.iface 89 (Value.pointer (some { block := w2.heap.size, off := 0 }))) (heap_setCell_same _ w.heap.size 0 _ _ (Value.int IntKind.i64 1000) (heap_setCell_same _ w.heap.size 5 _ _ (Value.bool false) (heap_setCell_same _ w.heap.size 4 _ _ (Value.slice none 0 0) (heap_setCell_same _ w.heap.size 3 _ _ (Value.pointer none) (heap_setCell_same _ w.heap.size 2 _ _ Value.nilIface (heap_setCell_same _ w.heap.size 1 _ _ (Value.string { data := #[] }) (heap_setCell_same w3 w.heap.size 0 _ _ (Value.int IntKind.i64 0) hr3)))))))
  clear q0 q1 q2 q3 q4 q5 fz
  generalize (((((((w3.setCell { block := w.heap.size, off := 0 } (Value.int IntKind.i64 0)).setCell { block := w.heap.size, off := 1 } (Value.string { data := #[] })).setCell { block := w.heap.size, off := 2 } Value.nilIface).setCell { block := w.heap.size, off := 3 } (Value.pointer none)).setCell { block := w.heap.size, off := 4 } (Value.slice none 0 0)).setCell { block := w.heap.size, off := 5 } (Value.bool false)).setCell { block := w.heap.size, off := 0 } (Value.int IntKind.i64 1000)).setCell { block := w.heap.size, off := 2 } (Value.iface 89 (Value.pointer (some { block := w2.heap.size, off := 0 }))) = w4 at *
  have p4 := hch4.cell p0 (fun e => hn0 e.symm)
  have pf4 : w4.frozen? ⟨pb, 0, none⟩ = false := frozen_of_row _ _ _ _ _ (hch4.at hp3 (fun e => hn0 e.symm))
  have hd4 := hch4.at hd (fun e => hne e.symm)
  have ho4 := hch4.ownsRow hown (fun k hk e => by have := (hown.lt k hk).1; omega)
  have ch4 : Chg (fun i => i = pb) w w4 := (ch.then hch3 (fun _ h => h.elim)).then hch4 (fun i hi => Or.inr (by omega))
  refine leaves_cons (f := 7) (args := #[.pointer (some ⟨pb, 0, none⟩)]) (by simp) (by simp [go_sem]) ?_
  refine (unlock_deferred Yba.muLib ⟨pb, 0, none⟩ .returning _ p4 pf4).mono ?_
  rintro e u' w'' ⟨rfl, rfl, rfl⟩
  have hch5 : Chg (fun i => i = pb) w4 (w4.setCell ⟨pb, 0, none⟩ (.int .i32 0)) := Chg.setCell _ _ _ _ rfl
  have hr5 := hch5.at hr4 hn0
  have hd5 := hch5.at hd4 (by omega)
  have ho5 := hch5.ownsRow ho4 (fun k hk e => by have := (hown.lt k hk).1; omega)
  have ch5 := ch4.trans hch5
  generalize w4.setCell ⟨pb, 0, none⟩ (.int .i32 0) = w5 at *
  exact ⟨_, results_cell_row rfl _ _ w.heap.size 84 _ _ _ rfl hr5 Yba.underlying84 rfl (by kernel_rfl), w2.heap.size, sl, by omega, rfl, hd5, ho5, ch5⟩
end Go.Proofs.Ybulkamru
