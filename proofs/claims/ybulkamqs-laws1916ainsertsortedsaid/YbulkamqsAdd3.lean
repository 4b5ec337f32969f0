/-
  OUR OWN. b1916a: addPiece (9) where the piece is laid in, walked.
-/
import Derived.Test.YbulkamqsAdd2
namespace Go.Proofs.Ybulkamqs
open Go.RowKit
set_option linter.unusedVariables false
set_option linter.unusedSimpArgs false
set_option maxRecDepth 20000 in
set_option maxHeartbeats 6400000 in
theorem add_yes (fc sb B : Nat) (L : List Sz) (A : Nat → Value) (r0 r1 r2 : Int) (ko turn : Bool) (p q : Bx) (hp : p.Ok) (hq : q.Ok) (w : World) (hfc : fc < 6) (hL : L.length ≤ 1024) (hB : sb < B) (hBw : B ≤ w.heap.size)
    (hr : w.heap[sb]? = some (spRow A r0 r1 r2 turn ko)) (hown : w.ownsRow B 35 7 (A fc) L.length (rows L)) (hm : meetsB p q = true) (hf : ko = false ∨ fits p r0 r1 r2 turn = true) :
    Calls Yba.prog 9 #[.pointer (some ⟨sb, 0, none⟩), .int .i64 fc, .agg (cells6 p), .agg (cells6 q)] w fun e w' => e = .returned (.tuple #[]) ∧ ∃ v c, c ≤ L.length ∧ w'.heap[sb]? = some (spRow (upd A fc v) r0 r1 r2 turn ko) ∧
      w'.ownsRow B 35 7 v (L.length + 1) (rows (L.take c ++ ⟨p, vol p⟩ :: L.drop c)) ∧ (∀ i s, i + 1 = c → L[i]? = some s → vol p ≤ s.n) ∧ (∀ i s, c ≤ i → L[i]? = some s → s.n < vol p) ∧ Chg (fun i => i = sb ∨ (A fc).ownBlock = some i) w w' := by
  have HO : Hid (w.ownsRow B 35 7 (A fc) L.length (rows L)) := hown
  clear hown
  have hme := fun W => meets_walk p q hp hq W
  rw [hm] at hme
  go_enter Yba.func9, Yba.ntmps9
  go_upto_region 1 with fail
  have hch1 := (Chg.alloc (fun _ => False) w (Obj.cells (cells6 p) 33)).trans (Chg.alloc (fun _ => False) _ (Obj.cells (cells6 q) 33))
  have hr1 := (Chg.alloc (fun _ => False) _ (Obj.cells (cells6 q) 33)).at (heap_alloc_new w (Obj.cells (cells6 p) 33)) (fun h => h)
  have hr2 := alloc_new2 w (Obj.cells (cells6 p) 33) (Obj.cells (cells6 q) 33)
  generalize (w.alloc (Obj.cells (cells6 p) 33)).alloc (Obj.cells (cells6 q) 33) = w1 at *
  have HC1 : Hid (Chg (fun _ => False) w w1) := hch1
  clear hch1
  go_cut [32] from 11 to 32 (fun s32 wx => s32 = .bool false ∧ Chg (fun _ => False) w1 wx)
  case first =>
    cases ko
    · skip
      obtain ⟨κ, F, hF, hF2⟩ : ∃ (κ : Type) (F : κ → World), (∀ k, Chg (fun _ => False) w1 (F k)) ∧ ∀ W, Chg (fun _ => False) w1 W → ∃ k, W = F k := ⟨{ W // Chg (fun _ => False) w1 W }, Subtype.val, fun k => k.2, fun W h => ⟨⟨W, h⟩, rfl⟩⟩
      have HF : Hid (∀ k, Chg (fun _ => False) w1 (F k)) := hF
      have HF2 : Hid (∀ W, Chg (fun _ => False) w1 W → ∃ k, W = F k) := hF2
      clear hF hF2
      have hne : Nonempty κ := by obtain ⟨k, _⟩ := HF2.out w1 (Chg.rfl' _ _); exact ⟨k⟩
      have c0 : ∀ k, (F k).cell? ⟨w.heap.size, 0, none⟩ = some (.int .i64 p.l0) := fun k => by rw [cell_of_row _ _ _ _ _ _ ((HF.out k).at hr1 (fun h => h))]; rfl
      have c1 : ∀ k, (F k).cell? ⟨w.heap.size, 1, none⟩ = some (.int .i64 p.l1) := fun k => by rw [cell_of_row _ _ _ _ _ _ ((HF.out k).at hr1 (fun h => h))]; rfl
      have c2 : ∀ k, (F k).cell? ⟨w.heap.size, 2, none⟩ = some (.int .i64 p.l2) := fun k => by rw [cell_of_row _ _ _ _ _ _ ((HF.out k).at hr1 (fun h => h))]; rfl
      have c3 : ∀ k, (F k).cell? ⟨w.heap.size, 3, none⟩ = some (.int .i64 p.h0) := fun k => by rw [cell_of_row _ _ _ _ _ _ ((HF.out k).at hr1 (fun h => h))]; rfl
      have c4 : ∀ k, (F k).cell? ⟨w.heap.size, 4, none⟩ = some (.int .i64 p.h1) := fun k => by rw [cell_of_row _ _ _ _ _ _ ((HF.out k).at hr1 (fun h => h))]; rfl
      have c5 : ∀ k, (F k).cell? ⟨w.heap.size, 5, none⟩ = some (.int .i64 p.h2) := fun k => by rw [cell_of_row _ _ _ _ _ _ ((HF.out k).at hr1 (fun h => h))]; rfl
      have d0 : ∀ k, (F k).cell? ⟨w.heap.size + 1, 0, none⟩ = some (.int .i64 q.l0) := fun k => by rw [cell_of_row _ _ _ _ _ _ ((HF.out k).at hr2 (fun h => h))]; rfl
      have d1 : ∀ k, (F k).cell? ⟨w.heap.size + 1, 1, none⟩ = some (.int .i64 q.l1) := fun k => by rw [cell_of_row _ _ _ _ _ _ ((HF.out k).at hr2 (fun h => h))]; rfl
      have d2 : ∀ k, (F k).cell? ⟨w.heap.size + 1, 2, none⟩ = some (.int .i64 q.l2) := fun k => by rw [cell_of_row _ _ _ _ _ _ ((HF.out k).at hr2 (fun h => h))]; rfl
      have d3 : ∀ k, (F k).cell? ⟨w.heap.size + 1, 3, none⟩ = some (.int .i64 q.h0) := fun k => by rw [cell_of_row _ _ _ _ _ _ ((HF.out k).at hr2 (fun h => h))]; rfl
      have d4 : ∀ k, (F k).cell? ⟨w.heap.size + 1, 4, none⟩ = some (.int .i64 q.h1) := fun k => by rw [cell_of_row _ _ _ _ _ _ ((HF.out k).at hr2 (fun h => h))]; rfl
      have d5 : ∀ k, (F k).cell? ⟨w.heap.size + 1, 5, none⟩ = some (.int .i64 q.h2) := fun k => by rw [cell_of_row _ _ _ _ _ _ ((HF.out k).at hr2 (fun h => h))]; rfl
      have hrs := HC1.out.at hr (fun h => h)
      have z0 : ∀ k, (F k).cell? ⟨sb, 14, none⟩ = some (.int .i64 r0) := fun k => by rw [cell_of_row _ _ _ _ _ _ ((HF.out k).at hrs (fun h => h))]; rfl
      have z1 : ∀ k, (F k).cell? ⟨sb, 15, none⟩ = some (.int .i64 r1) := fun k => by rw [cell_of_row _ _ _ _ _ _ ((HF.out k).at hrs (fun h => h))]; rfl
      have z2 : ∀ k, (F k).cell? ⟨sb, 16, none⟩ = some (.int .i64 r2) := fun k => by rw [cell_of_row _ _ _ _ _ _ ((HF.out k).at hrs (fun h => h))]; rfl
      have z3 : ∀ k, (F k).cell? ⟨sb, 17, none⟩ = some (.bool turn) := fun k => by rw [cell_of_row _ _ _ _ _ _ ((HF.out k).at hrs (fun h => h))]; rfl
      have z4 : ∀ k, (F k).cell? ⟨sb, 18, none⟩ = some (.bool false) := fun k => by rw [cell_of_row _ _ _ _ _ _ ((HF.out k).at hrs (fun h => h))]; rfl

      refine region_fam F (by kernel_rfl) (by kernel_rfl) (HF2.out _ (Chg.drew _ _)) ?_
      repeat (go_big_quiet_step ((go_at_call 17; exact (hme _).mono (fun e W h => ⟨h.1, HF2.out W ((HF.out _).trans h.2)⟩))))
      refine wpQuiet_nil ?_
      rintro w2 ⟨k, rfl⟩
      have HC2 : Hid (Chg (fun _ => False) w1 (F k)) := HF.out k
      go_wp2
      go_meet
      exact ⟨rfl, HC2.out⟩

    · have hf := hf.resolve_left (by simp)
      obtain ⟨κ, F, hF, hF2⟩ : ∃ (κ : Type) (F : κ → World), (∀ k, Chg (fun _ => False) w1 (F k)) ∧ ∀ W, Chg (fun _ => False) w1 W → ∃ k, W = F k := ⟨{ W // Chg (fun _ => False) w1 W }, Subtype.val, fun k => k.2, fun W h => ⟨⟨W, h⟩, rfl⟩⟩
      have HF : Hid (∀ k, Chg (fun _ => False) w1 (F k)) := hF
      have HF2 : Hid (∀ W, Chg (fun _ => False) w1 W → ∃ k, W = F k) := hF2
      clear hF hF2
      have hne : Nonempty κ := by obtain ⟨k, _⟩ := HF2.out w1 (Chg.rfl' _ _); exact ⟨k⟩
      have c0 : ∀ k, (F k).cell? ⟨w.heap.size, 0, none⟩ = some (.int .i64 p.l0) := fun k => by rw [cell_of_row _ _ _ _ _ _ ((HF.out k).at hr1 (fun h => h))]; rfl
      have c1 : ∀ k, (F k).cell? ⟨w.heap.size, 1, none⟩ = some (.int .i64 p.l1) := fun k => by rw [cell_of_row _ _ _ _ _ _ ((HF.out k).at hr1 (fun h => h))]; rfl
      have c2 : ∀ k, (F k).cell? ⟨w.heap.size, 2, none⟩ = some (.int .i64 p.l2) := fun k => by rw [cell_of_row _ _ _ _ _ _ ((HF.out k).at hr1 (fun h => h))]; rfl
      have c3 : ∀ k, (F k).cell? ⟨w.heap.size, 3, none⟩ = some (.int .i64 p.h0) := fun k => by rw [cell_of_row _ _ _ _ _ _ ((HF.out k).at hr1 (fun h => h))]; rfl
      have c4 : ∀ k, (F k).cell? ⟨w.heap.size, 4, none⟩ = some (.int .i64 p.h1) := fun k => by rw [cell_of_row _ _ _ _ _ _ ((HF.out k).at hr1 (fun h => h))]; rfl
      have c5 : ∀ k, (F k).cell? ⟨w.heap.size, 5, none⟩ = some (.int .i64 p.h2) := fun k => by rw [cell_of_row _ _ _ _ _ _ ((HF.out k).at hr1 (fun h => h))]; rfl
      have d0 : ∀ k, (F k).cell? ⟨w.heap.size + 1, 0, none⟩ = some (.int .i64 q.l0) := fun k => by rw [cell_of_row _ _ _ _ _ _ ((HF.out k).at hr2 (fun h => h))]; rfl
      have d1 : ∀ k, (F k).cell? ⟨w.heap.size + 1, 1, none⟩ = some (.int .i64 q.l1) := fun k => by rw [cell_of_row _ _ _ _ _ _ ((HF.out k).at hr2 (fun h => h))]; rfl
      have d2 : ∀ k, (F k).cell? ⟨w.heap.size + 1, 2, none⟩ = some (.int .i64 q.l2) := fun k => by rw [cell_of_row _ _ _ _ _ _ ((HF.out k).at hr2 (fun h => h))]; rfl
      have d3 : ∀ k, (F k).cell? ⟨w.heap.size + 1, 3, none⟩ = some (.int .i64 q.h0) := fun k => by rw [cell_of_row _ _ _ _ _ _ ((HF.out k).at hr2 (fun h => h))]; rfl
      have d4 : ∀ k, (F k).cell? ⟨w.heap.size + 1, 4, none⟩ = some (.int .i64 q.h1) := fun k => by rw [cell_of_row _ _ _ _ _ _ ((HF.out k).at hr2 (fun h => h))]; rfl
      have d5 : ∀ k, (F k).cell? ⟨w.heap.size + 1, 5, none⟩ = some (.int .i64 q.h2) := fun k => by rw [cell_of_row _ _ _ _ _ _ ((HF.out k).at hr2 (fun h => h))]; rfl
      have hrs := HC1.out.at hr (fun h => h)
      have z0 : ∀ k, (F k).cell? ⟨sb, 14, none⟩ = some (.int .i64 r0) := fun k => by rw [cell_of_row _ _ _ _ _ _ ((HF.out k).at hrs (fun h => h))]; rfl
      have z1 : ∀ k, (F k).cell? ⟨sb, 15, none⟩ = some (.int .i64 r1) := fun k => by rw [cell_of_row _ _ _ _ _ _ ((HF.out k).at hrs (fun h => h))]; rfl
      have z2 : ∀ k, (F k).cell? ⟨sb, 16, none⟩ = some (.int .i64 r2) := fun k => by rw [cell_of_row _ _ _ _ _ _ ((HF.out k).at hrs (fun h => h))]; rfl
      have z3 : ∀ k, (F k).cell? ⟨sb, 17, none⟩ = some (.bool turn) := fun k => by rw [cell_of_row _ _ _ _ _ _ ((HF.out k).at hrs (fun h => h))]; rfl
      have z4 : ∀ k, (F k).cell? ⟨sb, 18, none⟩ = some (.bool true) := fun k => by rw [cell_of_row _ _ _ _ _ _ ((HF.out k).at hrs (fun h => h))]; rfl
      have hho := fun k => holds_walk w.heap.size p hp r0 r1 r2 turn (F k) ((HF.out k).at hr1 (fun h => h))
      rw [hf] at hho
      refine region_fam F (by kernel_rfl) (by kernel_rfl) (HF2.out _ (Chg.drew _ _)) ?_
      repeat (go_big_quiet_step ((first | (go_at_call 17; exact (hme _).mono (fun e W h => ⟨h.1, HF2.out W ((HF.out _).trans h.2)⟩)) | (go_at_call 18; exact (hho _).mono (fun e W h => ⟨h.1, HF2.out W ((HF.out _).trans h.2)⟩)))))
      refine wpQuiet_nil ?_
      rintro w2 ⟨k, rfl⟩
      have HC2 : Hid (Chg (fun _ => False) w1 (F k)) := HF.out k
      go_wp2
      go_meet
      exact ⟨rfl, HC2.out⟩

  case rest =>
    obtain ⟨rfl, hcx⟩ := hcut
    rename World => wx
    go_wp2_with fail
    have hrp := hcx.at hr1 (fun h => h)
    have hsx : w.heap.size < wx.heap.size := lt_of_block hrp
    have c0 : wx.cell? ⟨w.heap.size, 0, none⟩ = some (.int .i64 p.l0) := by rw [cell_of_row _ _ _ _ _ _ hrp]; rfl
    have c1 : wx.cell? ⟨w.heap.size, 1, none⟩ = some (.int .i64 p.l1) := by rw [cell_of_row _ _ _ _ _ _ hrp]; rfl
    have c2 : wx.cell? ⟨w.heap.size, 2, none⟩ = some (.int .i64 p.l2) := by rw [cell_of_row _ _ _ _ _ _ hrp]; rfl
    have c3 : wx.cell? ⟨w.heap.size, 3, none⟩ = some (.int .i64 p.h0) := by rw [cell_of_row _ _ _ _ _ _ hrp]; rfl
    have c4 : wx.cell? ⟨w.heap.size, 4, none⟩ = some (.int .i64 p.h1) := by rw [cell_of_row _ _ _ _ _ _ hrp]; rfl
    have c5 : wx.cell? ⟨w.heap.size, 5, none⟩ = some (.int .i64 p.h2) := by rw [cell_of_row _ _ _ _ _ _ hrp]; rfl
    go_cut [8] from 33 to 36 (fun s8 wy => ∃ qb, s8 = .pointer (some ⟨qb, 0, none⟩) ∧ wy.heap[qb]? = some (.cells (cells7 ⟨p, vol p⟩) 35 (0, 0)) ∧ wx.heap.size ≤ qb ∧ Chg (fun _ => False) wx wy)
    case first =>
      go_region_with (
        (go_at_call 19
         refine Calls.mono (nodes_walk p hp _) ?_
         rintro e w2 ⟨rfl, hch2⟩
         have hp2 : w2.heap[w.heap.size]? = some (.cells (cells6 p) 33 (0, 0)) := hch2.at (by first | exact hrp | exact (Chg.alloc (fun _ => False) wx _).at hrp (fun h => h)) (fun h => h)
         have m0 : w2.cell? ⟨w.heap.size, 0, none⟩ = some (.int .i64 p.l0) := by rw [cell_of_row _ _ _ _ _ _ hp2]; rfl
         have m1 : w2.cell? ⟨w.heap.size, 1, none⟩ = some (.int .i64 p.l1) := by rw [cell_of_row _ _ _ _ _ _ hp2]; rfl
         have m2 : w2.cell? ⟨w.heap.size, 2, none⟩ = some (.int .i64 p.l2) := by rw [cell_of_row _ _ _ _ _ _ hp2]; rfl
         have m3 : w2.cell? ⟨w.heap.size, 3, none⟩ = some (.int .i64 p.h0) := by rw [cell_of_row _ _ _ _ _ _ hp2]; rfl
         have m4 : w2.cell? ⟨w.heap.size, 4, none⟩ = some (.int .i64 p.h1) := by rw [cell_of_row _ _ _ _ _ _ hp2]; rfl
         have m5 : w2.cell? ⟨w.heap.size, 5, none⟩ = some (.int .i64 p.h2) := by rw [cell_of_row _ _ _ _ _ _ hp2]; rfl
         have hps : w.heap.size < w2.heap.size := lt_of_block hp2
         try (have hz : w2.heap[wx.heap.size]? = some (.cells #[.int .i64 0, .int .i64 0, .int .i64 0, .int .i64 0, .int .i64 0, .int .i64 0, .int .i64 0] 35 (0, 0)) := hch2.at (by exact heap_alloc_new wx _) (fun h => h)
              have z0 : ∀ o, o < 7 → w2.cell? ⟨wx.heap.size, o, none⟩ = some (.int .i64 0) := fun o ho => by rw [cell_of_row _ _ _ _ _ _ hz]; match o, ho with | 0, _ => rfl | 1, _ => rfl | 2, _ => rfl | 3, _ => rfl | 4, _ => rfl | 5, _ => rfl | 6, _ => rfl
              have y0 := z0 0 (by omega)
              have y1 := z0 1 (by omega)
              have y2 := z0 2 (by omega)
              have y3 := z0 3 (by omega)
              have y4 := z0 4 (by omega)
              have y5 := z0 5 (by omega)
              have y6 := z0 6 (by omega)
              have yf : ∀ o, w2.frozen? ⟨wx.heap.size, o, none⟩ = false := fun o => frozen_of_row _ _ _ _ _ hz)))
      all_goals
        (go_wp2
         go_meet
         first
          | (refine ⟨wx.heap.size, rfl, ?_⟩
             generalize hW : World.setCell _ _ _ = W
             obtain ⟨h7, c7⟩ := put7_head hz _ _ _ _ _ _ _ hW
             exact ⟨h7, Nat.le_refl _, Chg.then ((Chg.alloc (fun _ => False) wx _).trans ((Chg.drew (fun _ => False) _).trans hch2)) c7 (fun i hi => Or.inr (by omega))⟩)
          | exact ⟨w2.heap.size, rfl, heap_alloc_new w2 _, hch2.size, (Chg.drew (fun _ => False) wx).trans (hch2.trans (Chg.alloc (fun _ => False) w2 _))⟩)
    case rest =>
      obtain ⟨qb, rfl, hq0, hqb, hcy⟩ := hcut
      rename World => wy
      have hchy : Chg (fun _ => False) w wy := (HC1.out.trans hcx).trans hcy
      have hry := hchy.at hr (fun h => h)
      have hoy := hchy.ownsRow HO.out (fun _ _ h => h)
      obtain ⟨sa, sc, hA⟩ := len_of hoy
      have HA : Hid (A fc = .slice sa L.length sc) := hA
      rw [hA] at hoy
      have ct : wy.cell? ⟨sb, 8 + fc, none⟩ = some (.slice sa L.length sc) := by rw [sp_cell hry fc hfc, hA]
      have e0 : wy.cell? ⟨qb, 0, none⟩ = some (.int .i64 p.l0) := by rw [cell_of_row _ _ _ _ _ _ hq0]; rfl
      have e1 : wy.cell? ⟨qb, 1, none⟩ = some (.int .i64 p.l1) := by rw [cell_of_row _ _ _ _ _ _ hq0]; rfl
      have e2 : wy.cell? ⟨qb, 2, none⟩ = some (.int .i64 p.l2) := by rw [cell_of_row _ _ _ _ _ _ hq0]; rfl
      have e3 : wy.cell? ⟨qb, 3, none⟩ = some (.int .i64 p.h0) := by rw [cell_of_row _ _ _ _ _ _ hq0]; rfl
      have e4 : wy.cell? ⟨qb, 4, none⟩ = some (.int .i64 p.h1) := by rw [cell_of_row _ _ _ _ _ _ hq0]; rfl
      have e5 : wy.cell? ⟨qb, 5, none⟩ = some (.int .i64 p.h2) := by rw [cell_of_row _ _ _ _ _ _ hq0]; rfl
      have e6 : wy.cell? ⟨qb, 6, none⟩ = some (.int .i64 (vol p)) := by rw [cell_of_row _ _ _ _ _ _ hq0]; rfl
      have hqs : qb < wy.heap.size := lt_of_block hq0
      have hss : sb < wy.heap.size := lt_of_block hry
      have hwy : w.heap.size ≤ wy.heap.size := hchy.size
      have HCY : Hid (Chg (fun _ => False) w wy) := hchy
      clear c0 c1 c2 c3 c4 c5 hA
      have hfi : (fc : Int) < 6 := by omega
      go_upto_region 3 with fail
      go_cut [9] from 37 to 45 (fun s9 wz => ∃ g cap, s9 = .slice (some ⟨g, 0, none⟩) (L.length + 1) cap ∧ wz.ownsRow B 35 7 (.slice (some ⟨g, 0, none⟩) (L.length + 1) cap) (L.length + 1) (rows (L ++ [⟨p, vol p⟩])) ∧ Chg (fun i => (A fc).ownBlock = some i) wy wz ∧ ((A fc).ownBlock = some g ∨ wy.heap.size ≤ g))
      case first =>
        go_region_law (refine step_append_new rfl (.tmp 42) (.tmp 44) 30 rfl B 35 _ 7 56 info35 rfl (by decide) Yba.underlying30 (.slice sa L.length sc) L.length (rows L) rfl ((((Chg.drew (fun _ => False) wy)).ownsRow hoy (fun _ _ h => h)).alloc _) wy.heap.size 1 (row7 ⟨p, vol p⟩) rfl rfl (heap_alloc_new wy.drew _) (by simp [Value.oneCell']) (by omega) (by omega) (by simp; omega) ?_; intro g cap w3 ho3 hc3 hg3)
        all_goals
          (go_wp2
           go_meet
           refine ⟨g, cap, rfl, by rw [rows_append]; exact ho3, by rw [HA.out]; exact (Chg.drew _ wy).trans ((Chg.alloc _ _ _).trans hc3), ?_⟩
           rw [HA.out]
           rcases hg3 with hg3 | hg3
           · exact Or.inl hg3
           · exact Or.inr (by rw [hg3]; simp))
      case rest =>
        obtain ⟨g, cap, rfl, hoz, hcz, hg⟩ := hcut
        rename World => wz
        have hge : B ≤ g ∧ g < wz.heap.size := hoz.lt g rfl
        have hqbw : w.heap.size ≤ qb := Nat.le_trans (HC1.out.trans hcx).size hqb
        have hgq : g ≠ qb := by
          rcases hg with hg | hg
          · have := (HO.out.lt g hg).2; omega
          · omega
        have hqz : wz.heap[qb]? = some (.cells (cells7 ⟨p, vol p⟩) 35 (0, 0)) := hcz.at hq0 (fun h => by have := (HO.out.lt qb h).2; omega)
        have hrz := hcz.at hry (fun h => by have := (HO.out.lt sb h).1; omega)
        have HCZ : Hid (Chg (fun i => i = sb ∨ (A fc).ownBlock = some i) w wz) := (HCY.out.mono (fun _ h => h.elim)).trans (hcz.mono (fun _ h => Or.inr h))
        have HG : Hid ((A fc).ownBlock = some g ∨ w.heap.size ≤ g) := hg.imp id (fun h => Nat.le_trans hwy h)
        clear ct e0 e1 e2 e3 e4 e5 e6 hg hcz hoy hry hq0
        go_wp2_with fail
        go_loopg [10] L.length (fun gk j wr => ∃ (t : Nat) (x : Sz), gk = t ∧ j = .int .i64 t ∧ t ≤ L.length ∧ wr.ownsRow B 35 7 (.slice (some ⟨g, 0, none⟩) (L.length + 1) cap) (L.length + 1) (rows (L.take t ++ x :: L.drop t)) ∧ (∀ i s, t ≤ i → L[i]? = some s → s.n < vol p) ∧ Chg (fun i => i = g) wz wr)
        case atStart => exact ⟨L.length, ⟨p, vol p⟩, rfl, by go_num, Nat.le_refl _, by simpa using hoz, fun i s hi h => (by rw [List.getElem?_eq_none hi] at h; cases h), Chg.rfl' _ _⟩
        case round =>
          obtain ⟨t, x, hgt, rfl, htl, hor, hlow, hcr⟩ := hrel
          have hqr := hcr.at hqz (fun h => hgq h.symm)
          have hrr := hcr.at hrz (fun h => by omega)
          have e0 : wr.cell? ⟨qb, 0, none⟩ = some (.int .i64 p.l0) := by rw [cell_of_row _ _ _ _ _ _ hqr]; rfl
          have e1 : wr.cell? ⟨qb, 1, none⟩ = some (.int .i64 p.l1) := by rw [cell_of_row _ _ _ _ _ _ hqr]; rfl
          have e2 : wr.cell? ⟨qb, 2, none⟩ = some (.int .i64 p.l2) := by rw [cell_of_row _ _ _ _ _ _ hqr]; rfl
          have e3 : wr.cell? ⟨qb, 3, none⟩ = some (.int .i64 p.h0) := by rw [cell_of_row _ _ _ _ _ _ hqr]; rfl
          have e4 : wr.cell? ⟨qb, 4, none⟩ = some (.int .i64 p.h1) := by rw [cell_of_row _ _ _ _ _ _ hqr]; rfl
          have e5 : wr.cell? ⟨qb, 5, none⟩ = some (.int .i64 p.h2) := by rw [cell_of_row _ _ _ _ _ _ hqr]; rfl
          have e6 : wr.cell? ⟨qb, 6, none⟩ = some (.int .i64 (vol p)) := by rw [cell_of_row _ _ _ _ _ _ hqr]; rfl
          have ct := sp_cell hrr fc hfc
          have ft := frozen_of_row _ sb (8 + fc) _ _ hrr
          have fg : ∀ o, wr.frozen? ⟨g, o, none⟩ = false := fun o => ownsRow_free hor o
          obtain ⟨f0, f1, f2, f3, f4, f5, f6⟩ := szAt_of hor (hole_self L t x htl)
          cases t with
          | zero =>
            have hti : (0 : Int) < (L.length : Int) + 1 := by omega
            go_wp2_with fail
            go_quiet (fail)
            go_wp2
            go_end0
            have ho7 := own_put7 ((Chg.drewN (fun _ => False) wr nq).ownsRow hor (fun _ _ h => h)) 0 (by rw [hole_len L 0 x htl]; omega) ⟨p, vol p⟩
            have hc7 := put7_chg (wr.drewN nq) g (0 * 7) (.int .i64 p.l0) (.int .i64 p.l1) (.int .i64 p.l2) (.int .i64 p.h0) (.int .i64 p.h1) (.int .i64 p.h2) (.int .i64 (vol p))
            rw [put_at L 0 x ⟨p, vol p⟩ htl] at ho7
            simp only [put7, Nat.zero_mul, Nat.zero_add] at ho7 hc7
            refine ⟨rfl, add_close hfc hB htl HCZ.out hrz HG.out (hcr.trans (Chg.drewN _ wr nq)) hc7 ho7 (fun i s h => by omega) hlow⟩
          | succ j =>
            obtain ⟨s, hs⟩ : ∃ s, L[j]? = some s := ⟨L[j], List.getElem?_eq_getElem (by omega)⟩
            obtain ⟨d0, d1, d2, d3, d4, d5, d6⟩ := szAt_of hor (hole_at L (j + 1) j x s (by omega) hs)
            by_cases hlt : s.n < vol p
            · have hd : decide (s.n < vol p) = true := by simpa using hlt
              go_wp2_with fail
              go_quiet (fail)
              go_wp2
              go_roundg j
              case measure => omega
              case rel =>
                have hod := (Chg.drewN (fun _ => False) wr nq).ownsRow hor (fun _ _ h => h)
                have ho7 := own_put7 hod (j + 1) (by rw [hole_len L (j + 1) x htl]; omega) s
                rw [shift_at L j x s hs] at ho7
                refine ⟨j, s, rfl, rfl, by omega, ho7, ?_, (hcr.trans (Chg.drewN _ wr nq)).trans (put7_chg (wr.drewN nq) g ((j + 1) * 7) _ _ _ _ _ _ _)⟩
                intro i s' hi hs'
                by_cases e : i = j
                · subst e
                  rw [hs] at hs'; cases hs'; exact hlt
                · exact hlow i s' (by omega) hs'
            · have hd : decide (s.n < vol p) = false := by simpa using hlt
              have hti : ((j + 1 : Nat) : Int) < (L.length : Int) + 1 := by omega
              go_wp2_with fail
              go_quiet (fail)
              go_wp2
              go_end0
              have ho7 := own_put7 ((Chg.drewN (fun _ => False) wr nq).ownsRow hor (fun _ _ h => h)) (j + 1) (by rw [hole_len L (j + 1) x htl]; omega) ⟨p, vol p⟩
              rw [put_at L (j + 1) x ⟨p, vol p⟩ htl] at ho7
              refine ⟨rfl, add_close hfc hB htl HCZ.out hrz HG.out (hcr.trans (Chg.drewN _ wr nq)) (put7_chg (wr.drewN nq) g ((j + 1) * 7) _ _ _ _ _ _ _) ho7 (fun i s' h h' => ?_) hlow⟩
              obtain rfl : i = j := by omega
              rw [hs] at h'; cases h'; omega
end Go.Proofs.Ybulkamqs
