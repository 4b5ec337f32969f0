/-
  OUR OWN. b1922a: newPattern (4), walked.
-/
import Derived.Test.YbulkamtyFrame2
namespace Go.Proofs.Ybulkamty
open Go.RowKit
set_option linter.unusedVariables false
set_option linter.unusedSimpArgs false
set_option maxRecDepth 20000 in
set_option maxHeartbeats 20000000 in
theorem new_walk (S : ByteArray) (V : List Sp) (L : List Sg) (Bs Bv : Nat) (sa va : Option Addr) (sc vc : Nat) (w : World) (hwf : WF S.size V.length L)
    (hs : w.ownsRow Bs 32 6 (.slice sa L.length sc) L.length (cellsOfL rowSg L)) (hv : w.ownsRow Bv 30 2 (.slice va V.length vc) V.length (cellsOfL rowSp V)) :
    Calls Yba.prog 4 #[.string S, .slice sa L.length sc, .slice va V.length vc] w fun e w' => e = .returned (.pointer (some ⟨w.heap.size, 0, none⟩)) ∧ ∃ hv,
      w'.heap[w.heap.size]? = some (patRow S hv (ld L L.length) S.size (.slice va V.length vc) (.slice sa L.length sc)) ∧ w'.ownsRow (w.heap.size + 1) 40 10 hv (hl S V L L.length).length (cellsOfL rowHo (hl S V L L.length)) ∧ Chg (fun _ => False) w w' := by
  have HS : Hid (w.ownsRow Bs 32 6 (.slice sa L.length sc) L.length (cellsOfL rowSg L)) := hs
  have HV : Hid (w.ownsRow Bv 30 2 (.slice va V.length vc) V.length (cellsOfL rowSp V)) := hv
  have HWF : Hid (WF S.size V.length L) := hwf
  have hl300 := hwf.hl
  have hn5 := hwf.hn
  have hm5 := hwf.hm
  clear hs hv hwf
  go_enter Yba.func4, Yba.ntmps4
  go_wp2_with fail
  have hp0 := heap_alloc_new w (Obj.cells #[.string S, .slice none 0 0, .int .i32 0, .int .i32 0, .slice va V.length vc, .slice sa L.length sc] 37)
  have hc0 := Chg.alloc (fun _ => False) w (Obj.cells #[.string S, .slice none 0 0, .int .i32 0, .int .i32 0, .slice va V.length vc, .slice sa L.length sc] 37)
  generalize w.alloc (Obj.cells #[.string S, .slice none 0 0, .int .i32 0, .int .i32 0, .slice va V.length vc, .slice sa L.length sc] 37) = w1 at *
  go_loopg [8, 23] L.length (fun gk s8 s23 wr => ∃ t c : Nat, gk + t = L.length ∧ s8 = .int .i64 c ∧ s23 = .int .i64 t ∧ c ≤ t ∧ wr.heap[w.heap.size]? = some (patRow S (.slice none 0 0) 0 0 (.slice va V.length vc) (.slice sa L.length sc)) ∧ Chg (fun _ => False) w wr)
  case atStart => exact ⟨0, 0, rfl, rfl, rfl, Nat.le_refl _, hp0, hc0⟩
  case round =>
    obtain ⟨t, c, hgt, rfl, rfl, hct, hpr, hch⟩ := hrel
    by_cases hlt : t < L.length
    · obtain ⟨s, hsg⟩ := get_of hlt
      obtain ⟨g, scap, _, hform, _⟩ := ownsRow_form HS.out (by omega)
      simp only [Value.slice.injEq] at hform
      obtain ⟨rfl, _, rfl⟩ := hform
      have hos := hch.ownsRow HS.out (fun _ _ h => h)
      have c0 := own_at lenSg hos hsg 0 _ (by omega) rfl
      have c1 := own_at lenSg hos hsg 1 _ (by omega) rfl
      have c2 := own_at lenSg hos hsg 2 _ (by omega) rfl
      have c3 := own_at lenSg hos hsg 3 _ (by omega) rfl
      have c4 := own_at lenSg hos hsg 4 _ (by omega) rfl
      have c5 := own_at lenSg hos hsg 5 _ (by omega) rfl
      rw [Nat.add_zero] at c0
      have hk3 := (HWF.out.one t s hsg).1
      by_cases hk : s.k = 0
      · have hkn : ((s.k : Int) == 0) = true := by simp [hk]
        go_wp2
        go_roundg (L.length - (t + 1))
        case measure => omega
        case rel => exact ⟨t + 1, c, by omega, rfl, by go_num, by omega, (Chg.alloc (fun _ => False) wr _).at hpr (fun h => h), hch.trans (Chg.alloc _ _ _)⟩
      · have hkn : ((s.k : Int) == 0) = false := by simp; omega
        go_wp2
        go_roundg (L.length - (t + 1))
        case measure => omega
        case rel => exact ⟨t + 1, c + 1, by omega, by go_num, by go_num, by omega, (Chg.alloc (fun _ => False) wr _).at hpr (fun h => h), hch.trans (Chg.alloc _ _ _)⟩
    · obtain rfl : t = L.length := by omega
      obtain ⟨i0, hi, hz0, hz1, hz2⟩ := info_cut info40
      obtain ⟨w2, hmk, ho2, hg2⟩ := run_make_own (P := Yba.prog) wr wr.heap.size 35 40 i0 _ 10 Yba.underlying35 hi hz0 hz1 .i64 .i64 c (by rw [hz2]; omega) (by unfold maxLen; omega) (Nat.le_refl _)
      have hc2 : Chg (fun _ => False) wr w2 := Chg.grown hg2 (fun k hk => by cases hk)
      have hp2 := hc2.at hpr (fun h => h)
      have cp : w2.cell? ⟨w.heap.size, 1, none⟩ = some (.slice none 0 0) := by rw [cell_of_row _ _ _ _ _ _ hp2]; rfl
      have fp := frozen_of_row _ w.heap.size 1 _ _ hp2
      have hsz : w.heap.size < wr.heap.size := lt_of_block hpr
      have HC2 : Hid (Chg (fun _ => False) w w2) := hch.trans hc2
      clear hi hz0 hz1 hz2 hg2 hc2 hch hct
      go_wp2_with fail
      have hp3 : (w2.setCell ⟨w.heap.size, 1, none⟩ (.slice (some ⟨wr.heap.size, 0, none⟩) 0 c)).heap[w.heap.size]? = some (patRow S (.slice (some ⟨wr.heap.size, 0, none⟩) 0 c) 0 0 (.slice va V.length vc) (.slice sa L.length sc)) := heap_setCell_same w2 _ 1 _ _ _ hp2
      have hc3 := Chg.setCell (fun i => i = w.heap.size) w2 ⟨w.heap.size, 1, none⟩ (.slice (some ⟨wr.heap.size, 0, none⟩) 0 c) rfl
      have ho3 := ownsRow_le (hc3.ownsRow ho2 (fun k hk e => by simp [Value.ownBlock] at hk; omega)) (show w.heap.size + 1 ≤ wr.heap.size by omega)
      have hcw3 := HC2.out.then hc3 (fun i hi => Or.inr (by omega))
      clear hc3 ho2 hp2 cp fp hmk HC2
      generalize w2.setCell ⟨w.heap.size, 1, none⟩ (.slice (some ⟨wr.heap.size, 0, none⟩) 0 c) = w3 at *
      generalize (Value.slice (some ⟨wr.heap.size, 0, none⟩) 0 c) = hv0 at *
      clear hpr hsz
      go_loopg [11, 40] L.length (fun gk s11 s40 wr => ∃ (t : Nat) (hv : Value), gk + t = L.length ∧ s11 = .int .i32 (ld L t : Nat) ∧ s40 = .int .i64 t ∧ wr.heap[w.heap.size]? = some (patRow S hv 0 0 (.slice va V.length vc) (.slice sa L.length sc)) ∧
        wr.ownsRow (w.heap.size + 1) 40 10 hv (hl S V L t).length (cellsOfL rowHo (hl S V L t)) ∧ Chg (fun _ => False) w wr)
      case atStart => exact ⟨0, hv0, rfl, rfl, rfl, hp3, ho3, hcw3⟩
      case round =>
        clear hp3 ho3 hcw3
        obtain ⟨t, hv, hgt, rfl, rfl, hpr, hoh, hch⟩ := hrel
        by_cases hlt : t < L.length
        · obtain ⟨s, hsg⟩ := get_of hlt
          obtain ⟨g, scap, _, hform, _⟩ := ownsRow_form HS.out (by omega)
          simp only [Value.slice.injEq] at hform
          obtain ⟨rfl, _, rfl⟩ := hform
          have hos := hch.ownsRow HS.out (fun _ _ h => h)
          have c0 := own_at lenSg hos hsg 0 _ (by omega) rfl
          have c1 := own_at lenSg hos hsg 1 _ (by omega) rfl
          have c2 := own_at lenSg hos hsg 2 _ (by omega) rfl
          have c3 := own_at lenSg hos hsg 3 _ (by omega) rfl
          have c4 := own_at lenSg hos hsg 4 _ (by omega) rfl
          have c5 := own_at lenSg hos hsg 5 _ (by omega) rfl
          rw [Nat.add_zero] at c0
          obtain ⟨hk3, hts, hte, hvs, hve⟩ := HWF.out.one t s hsg
          have hld := HWF.out.ld_le hsg
          have hpl : w.heap.size < wr.heap.size := lt_of_block hpr
          by_cases hk : s.k = 0
          · have hkn : ((s.k : Int) == 0) = true := by simp [hk]
            go_wp2
            go_roundg (L.length - (t + 1))
            case measure => omega
            case rel =>
              refine ⟨t + 1, hv, by omega, by rw [ld_lit hsg hk], by go_num, (Chg.alloc (fun _ => False) wr _).at hpr (fun h => h), ?_, hch.trans (Chg.alloc _ _ _)⟩
              rw [hl_lit hsg hk]
              exact (Chg.alloc (fun _ => False) wr _).ownsRow hoh (fun _ _ h => h)
          · have hkn : ((s.k : Int) == 0) = false := by simp; omega
            go_wp2_with fail
            have hcb := heap_alloc_new wr (Obj.cells #[.int .u8 s.k, .int .u8 0, .int .i32 s.ts, .int .i32 s.te, .int .i32 s.vs, .int .i32 s.ve] 32)
            have hca := Chg.alloc (fun _ => False) wr (Obj.cells #[.int .u8 s.k, .int .u8 0, .int .i32 s.ts, .int .i32 s.te, .int .i32 s.vs, .int .i32 s.ve] 32)
            generalize wr.alloc (Obj.cells #[.int .u8 s.k, .int .u8 0, .int .i32 s.ts, .int .i32 s.te, .int .i32 s.vs, .int .i32 s.ve] 32) = wa at *
            clear c0 c1 c2 c3 c4 c5 hos
            go_cut [14] from 48 to 64 (fun s14 wx => ∃ hb, s14 = .pointer (some ⟨hb, 0, none⟩) ∧ wx.heap[hb]? = some (.cells #[.int .u64 0, .int .u64 0, .int .i32 (ld L t : Nat), .int .i32 s.ts, .int .i32 0, .int .i32 0, .int .i32 s.vs, .int .i32 t, .int .u8 s.k, .bool (decide ((1 : Int) < (s.ve : Int) - s.vs))] 40 (0, 0)) ∧ wa.heap.size ≤ hb ∧ Chg (fun _ => False) wa wx)
            case first =>
              rename_i J Kc hJ hM
              refine region_inv_at (fun a0 b a' w' => Kept sl15 a0 a' ∧ I15 wa [.int .i32 (ld L t : Nat), .pointer (some ⟨wr.heap.size, 2, none⟩), .pointer (some ⟨wr.heap.size, 2, none⟩), .int .i32 s.ts, .agg #[.int .i32 (ld L t : Nat), .int .i32 s.ts], .pointer (some ⟨wr.heap.size, 0, none⟩), .int .u8 s.k, .pointer (some ⟨wr.heap.size, 4, none⟩), .pointer (some ⟨wr.heap.size, 4, none⟩), .int .i32 s.vs, .pointer (some ⟨wr.heap.size, 4, none⟩), .agg #[.int .i32 s.vs, .int .i32 s.ve], .int .i64 ((s.ve : Int) - s.vs), .bool (decide ((1 : Int) < (s.ve : Int) - s.vs)), .int .i64 t, .int .i32 t, .agg #[.int .u64 0, .int .u64 0, .int .i32 (ld L t : Nat), .int .i32 s.ts, .int .i32 0, .int .i32 0, .int .i32 s.vs, .int .i32 t, .int .u8 s.k, .bool (decide ((1 : Int) < (s.ve : Int) - s.vs))]] #[.int .u64 0, .int .u64 0, .int .i32 (ld L t : Nat), .int .i32 s.ts, .int .i32 0, .int .i32 0, .int .i32 s.vs, .int .i32 t, .int .u8 s.k, .bool (decide ((1 : Int) < (s.ve : Int) - s.vs))] b (slotsOf sl15 a') w') (by kernel_rfl) (by kernel_rfl) ⟨Kept.refl _ _, I15.first wa _ _ _⟩ ?_ ?_
              · refine And.intro ?_ (And.intro ?_ (And.intro ?_ (And.intro ?_ (And.intro ?_ (And.intro ?_ (And.intro ?_ (And.intro ?_ (And.intro ?_ (And.intro ?_ (And.intro ?_ (And.intro ?_ (And.intro ?_ (And.intro ?_ (And.intro ?_ (And.intro ?_ (And.intro ?_ (And.intro ?_ (And.intro ?_ trivial))))))))))))))))))
                · rintro b a' w' ⟨hK, hI⟩ hk hdep
                  have o11 : a'.tmps.getD 11 undef = .int .i32 (ld L t : Nat) := hK.get 11 (by decide)
                  have hfin := fin15 hK rfl hI 0 (by omega)
                  go_wp2_with fail
                  first | exact hfin | (simp only [Bool.if_true_left] at hfin; exact hfin)
                · rintro b a' w' ⟨hK, hI⟩ hk hdep
                  have o13 : a'.tmps.getD 13 undef = .pointer (some ⟨wr.heap.size, 0, none⟩) := hK.get 13 (by decide)
                  have hfin := fin15 hK rfl hI 1 (by omega)
                  go_wp2_with fail
                  first | exact hfin | (simp only [Bool.if_true_left] at hfin; exact hfin)
                · rintro b a' w' ⟨hK, hI⟩ hk hdep
                  have s49 : a'.tmps.getD 49 undef = .pointer (some ⟨wr.heap.size, 2, none⟩) := hI.pure 1 (by omega) (hdep { on := 1, ground := Ground.data } (by simp) rfl)
                  have hfin := fin15 hK rfl hI 2 (by omega)
                  go_wp2_with fail
                  first | exact hfin | (simp only [Bool.if_true_left] at hfin; exact hfin)
                · rintro b a' w' ⟨hK, hI⟩ hk hdep
                  have s50 : a'.tmps.getD 50 undef = .pointer (some ⟨wr.heap.size, 2, none⟩) := hI.pure 2 (by omega) (hdep { on := 2, ground := Ground.data } (by simp) rfl)
                  have hrow := hI.ch.at hcb (fun h => h)
                  have c0 : w'.cell? ⟨wr.heap.size, 0, none⟩ = some (.int .u8 s.k) := by rw [cell_of_row _ _ _ _ _ _ hrow]; rfl
                  have c1 : w'.cell? ⟨wr.heap.size, 1, none⟩ = some (.int .u8 0) := by rw [cell_of_row _ _ _ _ _ _ hrow]; rfl
                  have c2 : w'.cell? ⟨wr.heap.size, 2, none⟩ = some (.int .i32 s.ts) := by rw [cell_of_row _ _ _ _ _ _ hrow]; rfl
                  have c3 : w'.cell? ⟨wr.heap.size, 3, none⟩ = some (.int .i32 s.te) := by rw [cell_of_row _ _ _ _ _ _ hrow]; rfl
                  have c4 : w'.cell? ⟨wr.heap.size, 4, none⟩ = some (.int .i32 s.vs) := by rw [cell_of_row _ _ _ _ _ _ hrow]; rfl
                  have c5 : w'.cell? ⟨wr.heap.size, 5, none⟩ = some (.int .i32 s.ve) := by rw [cell_of_row _ _ _ _ _ _ hrow]; rfl
                  have hfin := fin15 hK rfl hI 3 (by omega)
                  go_wp2_with fail
                  first | exact hfin | (simp only [Bool.if_true_left] at hfin; exact hfin)
                · rintro b a' w' ⟨hK, hI⟩ hk hdep
                  have s48 : a'.tmps.getD 48 undef = .int .i32 (ld L t : Nat) := hI.pure 0 (by omega) (hdep { on := 0, ground := Ground.data } (by simp) rfl)
                  have q48 : a'.tmps[48]?.getD undef = .int .i32 (ld L t : Nat) := by rw [← Array.getD_eq_getD_getElem?]; exact s48
                  have s51 : a'.tmps.getD 51 undef = .int .i32 s.ts := hI.pure 3 (by omega) (hdep { on := 3, ground := Ground.data } (by simp) rfl)
                  have q51 : a'.tmps[51]?.getD undef = .int .i32 s.ts := by rw [← Array.getD_eq_getD_getElem?]; exact s51
                  have hfin := fin15 hK rfl hI 4 (by omega)
                  go_wp2_with fail
                  first | exact hfin | (simp only [Bool.if_true_left] at hfin; exact hfin)
                · rintro b a' w' ⟨hK, hI⟩ hk hdep
                  have o13 : a'.tmps.getD 13 undef = .pointer (some ⟨wr.heap.size, 0, none⟩) := hK.get 13 (by decide)
                  have hfin := fin15 hK rfl hI 5 (by omega)
                  go_wp2_with fail
                  first | exact hfin | (simp only [Bool.if_true_left] at hfin; exact hfin)
                · rintro b a' w' ⟨hK, hI⟩ hk hdep
                  have s53 : a'.tmps.getD 53 undef = .pointer (some ⟨wr.heap.size, 0, none⟩) := hI.pure 5 (by omega) (hdep { on := 5, ground := Ground.data } (by simp) rfl)
                  have hrow := hI.ch.at hcb (fun h => h)
                  have c0 : w'.cell? ⟨wr.heap.size, 0, none⟩ = some (.int .u8 s.k) := by rw [cell_of_row _ _ _ _ _ _ hrow]; rfl
                  have c1 : w'.cell? ⟨wr.heap.size, 1, none⟩ = some (.int .u8 0) := by rw [cell_of_row _ _ _ _ _ _ hrow]; rfl
                  have c2 : w'.cell? ⟨wr.heap.size, 2, none⟩ = some (.int .i32 s.ts) := by rw [cell_of_row _ _ _ _ _ _ hrow]; rfl
                  have c3 : w'.cell? ⟨wr.heap.size, 3, none⟩ = some (.int .i32 s.te) := by rw [cell_of_row _ _ _ _ _ _ hrow]; rfl
                  have c4 : w'.cell? ⟨wr.heap.size, 4, none⟩ = some (.int .i32 s.vs) := by rw [cell_of_row _ _ _ _ _ _ hrow]; rfl
                  have c5 : w'.cell? ⟨wr.heap.size, 5, none⟩ = some (.int .i32 s.ve) := by rw [cell_of_row _ _ _ _ _ _ hrow]; rfl
                  have hfin := fin15 hK rfl hI 6 (by omega)
                  go_wp2_with fail
                  first | exact hfin | (simp only [Bool.if_true_left] at hfin; exact hfin)
                · rintro b a' w' ⟨hK, hI⟩ hk hdep
                  have o13 : a'.tmps.getD 13 undef = .pointer (some ⟨wr.heap.size, 0, none⟩) := hK.get 13 (by decide)
                  have hfin := fin15 hK rfl hI 7 (by omega)
                  go_wp2_with fail
                  first | exact hfin | (simp only [Bool.if_true_left] at hfin; exact hfin)
                · rintro b a' w' ⟨hK, hI⟩ hk hdep
                  have s55 : a'.tmps.getD 55 undef = .pointer (some ⟨wr.heap.size, 4, none⟩) := hI.pure 7 (by omega) (hdep { on := 7, ground := Ground.data } (by simp) rfl)
                  have hfin := fin15 hK rfl hI 8 (by omega)
                  go_wp2_with fail
                  first | exact hfin | (simp only [Bool.if_true_left] at hfin; exact hfin)
                · rintro b a' w' ⟨hK, hI⟩ hk hdep
                  have s56 : a'.tmps.getD 56 undef = .pointer (some ⟨wr.heap.size, 4, none⟩) := hI.pure 8 (by omega) (hdep { on := 8, ground := Ground.data } (by simp) rfl)
                  have hrow := hI.ch.at hcb (fun h => h)
                  have c0 : w'.cell? ⟨wr.heap.size, 0, none⟩ = some (.int .u8 s.k) := by rw [cell_of_row _ _ _ _ _ _ hrow]; rfl
                  have c1 : w'.cell? ⟨wr.heap.size, 1, none⟩ = some (.int .u8 0) := by rw [cell_of_row _ _ _ _ _ _ hrow]; rfl
                  have c2 : w'.cell? ⟨wr.heap.size, 2, none⟩ = some (.int .i32 s.ts) := by rw [cell_of_row _ _ _ _ _ _ hrow]; rfl
                  have c3 : w'.cell? ⟨wr.heap.size, 3, none⟩ = some (.int .i32 s.te) := by rw [cell_of_row _ _ _ _ _ _ hrow]; rfl
                  have c4 : w'.cell? ⟨wr.heap.size, 4, none⟩ = some (.int .i32 s.vs) := by rw [cell_of_row _ _ _ _ _ _ hrow]; rfl
                  have c5 : w'.cell? ⟨wr.heap.size, 5, none⟩ = some (.int .i32 s.ve) := by rw [cell_of_row _ _ _ _ _ _ hrow]; rfl
                  have hfin := fin15 hK rfl hI 9 (by omega)
                  go_wp2_with fail
                  first | exact hfin | (simp only [Bool.if_true_left] at hfin; exact hfin)
                · rintro b a' w' ⟨hK, hI⟩ hk hdep
                  have o13 : a'.tmps.getD 13 undef = .pointer (some ⟨wr.heap.size, 0, none⟩) := hK.get 13 (by decide)
                  have hfin := fin15 hK rfl hI 10 (by omega)
                  go_wp2_with fail
                  first | exact hfin | (simp only [Bool.if_true_left] at hfin; exact hfin)
                · rintro b a' w' ⟨hK, hI⟩ hk hdep
                  have s58 : a'.tmps.getD 58 undef = .pointer (some ⟨wr.heap.size, 4, none⟩) := hI.pure 10 (by omega) (hdep { on := 10, ground := Ground.data } (by simp) rfl)
                  have hrow := hI.ch.at hcb (fun h => h)
                  have c0 : w'.cell? ⟨wr.heap.size, 0, none⟩ = some (.int .u8 s.k) := by rw [cell_of_row _ _ _ _ _ _ hrow]; rfl
                  have c1 : w'.cell? ⟨wr.heap.size, 1, none⟩ = some (.int .u8 0) := by rw [cell_of_row _ _ _ _ _ _ hrow]; rfl
                  have c2 : w'.cell? ⟨wr.heap.size, 2, none⟩ = some (.int .i32 s.ts) := by rw [cell_of_row _ _ _ _ _ _ hrow]; rfl
                  have c3 : w'.cell? ⟨wr.heap.size, 3, none⟩ = some (.int .i32 s.te) := by rw [cell_of_row _ _ _ _ _ _ hrow]; rfl
                  have c4 : w'.cell? ⟨wr.heap.size, 4, none⟩ = some (.int .i32 s.vs) := by rw [cell_of_row _ _ _ _ _ _ hrow]; rfl
                  have c5 : w'.cell? ⟨wr.heap.size, 5, none⟩ = some (.int .i32 s.ve) := by rw [cell_of_row _ _ _ _ _ _ hrow]; rfl
                  have hfin := fin15 hK rfl hI 11 (by omega)
                  go_wp2_with fail
                  first | exact hfin | (simp only [Bool.if_true_left] at hfin; exact hfin)
                · rintro b a' w' ⟨hK, hI⟩ hk hdep
                  have s59 : a'.tmps.getD 59 undef = .agg #[.int .i32 s.vs, .int .i32 s.ve] := hI.pure 11 (by omega) (hdep { on := 11, ground := Ground.data } (by simp) rfl)
                  go_wp2_with fail
                  refine Calls.mono (len_walk s.vs s.ve (by omega) (by omega) _) ?_
                  rintro e w2 ⟨rfl, hc2⟩
                  have hfin := fin15 hK rfl (hI.world hc2) 12 (by omega)
                  go_wp2_with fail
                  first | exact hfin | (simp only [Bool.if_true_left] at hfin; exact hfin)
                · rintro b a' w' ⟨hK, hI⟩ hk hdep
                  have s60 : a'.tmps.getD 60 undef = .int .i64 ((s.ve : Int) - s.vs) := hI.pure 12 (by omega) (hdep { on := 12, ground := Ground.data } (by simp) rfl)
                  have hfin := fin15 hK rfl hI 13 (by omega)
                  go_wp2_with fail
                  first | exact hfin | (simp only [Bool.if_true_left] at hfin; exact hfin)
                · rintro b a' w' ⟨hK, hI⟩ hk hdep
                  have o12 : a'.tmps.getD 12 undef = .int .i64 t := hK.get 12 (by decide)
                  have hfin := fin15 hK rfl hI 14 (by omega)
                  go_wp2_with fail
                  first | exact hfin | (simp only [Bool.if_true_left] at hfin; exact hfin)
                · rintro b a' w' ⟨hK, hI⟩ hk hdep
                  have s62 : a'.tmps.getD 62 undef = .int .i64 t := hI.pure 14 (by omega) (hdep { on := 14, ground := Ground.data } (by simp) rfl)
                  have hfin := fin15 hK rfl hI 15 (by omega)
                  go_wp2_with fail
                  first | exact hfin | (simp only [Bool.if_true_left] at hfin; exact hfin)
                · rintro b a' w' ⟨hK, hI⟩ hk hdep
                  have s52 : a'.tmps.getD 52 undef = .agg #[.int .i32 (ld L t : Nat), .int .i32 s.ts] := hI.pure 4 (by omega) (hdep { on := 4, ground := Ground.data } (by simp) rfl)
                  have q52 : a'.tmps[52]?.getD undef = .agg #[.int .i32 (ld L t : Nat), .int .i32 s.ts] := by rw [← Array.getD_eq_getD_getElem?]; exact s52
                  have s54 : a'.tmps.getD 54 undef = .int .u8 s.k := hI.pure 6 (by omega) (hdep { on := 6, ground := Ground.data } (by simp) rfl)
                  have q54 : a'.tmps[54]?.getD undef = .int .u8 s.k := by rw [← Array.getD_eq_getD_getElem?]; exact s54
                  have s57 : a'.tmps.getD 57 undef = .int .i32 s.vs := hI.pure 9 (by omega) (hdep { on := 9, ground := Ground.data } (by simp) rfl)
                  have q57 : a'.tmps[57]?.getD undef = .int .i32 s.vs := by rw [← Array.getD_eq_getD_getElem?]; exact s57
                  have s61 : a'.tmps.getD 61 undef = .bool (decide ((1 : Int) < (s.ve : Int) - s.vs)) := hI.pure 13 (by omega) (hdep { on := 13, ground := Ground.data } (by simp) rfl)
                  have q61 : a'.tmps[61]?.getD undef = .bool (decide ((1 : Int) < (s.ve : Int) - s.vs)) := by rw [← Array.getD_eq_getD_getElem?]; exact s61
                  have s63 : a'.tmps.getD 63 undef = .int .i32 t := hI.pure 15 (by omega) (hdep { on := 15, ground := Ground.data } (by simp) rfl)
                  have q63 : a'.tmps[63]?.getD undef = .int .i32 t := by rw [← Array.getD_eq_getD_getElem?]; exact s63
                  have hfin := fin15 hK rfl hI 16 (by omega)
                  go_wp2_with fail
                  first | exact hfin | (simp only [Bool.if_true_left] at hfin; exact hfin)
                · rintro b a' w' ⟨hK, hI⟩ hk hdep
                  have hfin := fun c0 c1 c2 c3 c4 c5 c6 c7 c8 c9 => made15 hK rfl hI hk c0 c1 c2 c3 c4 c5 c6 c7 c8 c9
                  go_wp2_with fail
                  first | exact hfin _ _ _ _ _ _ _ _ _ _ | (simp only [Bool.if_true_left] at hfin; exact hfin _ _ _ _ _ _ _ _ _ _)
                · rintro b a' w' ⟨hK, hI⟩ hk hdep
                  have h17 := hdep { on := 17, ground := Ground.data } (by simp) rfl
                  have s64 : a'.tmps.getD 64 undef = .agg #[.int .u64 0, .int .u64 0, .int .i32 (ld L t : Nat), .int .i32 s.ts, .int .i32 0, .int .i32 0, .int .i32 s.vs, .int .i32 t, .int .u8 s.k, .bool (decide ((1 : Int) < (s.ve : Int) - s.vs))] := hI.pure 16 (by omega) (hdep { on := 16, ground := Ground.data } (by simp) rfl)
                  obtain ⟨hb, y0, y1, y2, y3, y4, y5, y6, y7, y8, y9, x17, hbl, hrow, _⟩ := hI.b17 h17
                  have s14 : a'.tmps.getD 14 undef = .pointer (some ⟨hb, 0, none⟩) := x17
                  have c0 : w'.cell? ⟨hb, 0, none⟩ = some y0 := by rw [cell_of_row _ _ _ _ _ _ hrow]; rfl
                  have c1 : w'.cell? ⟨hb, 1, none⟩ = some y1 := by rw [cell_of_row _ _ _ _ _ _ hrow]; rfl
                  have c2 : w'.cell? ⟨hb, 2, none⟩ = some y2 := by rw [cell_of_row _ _ _ _ _ _ hrow]; rfl
                  have c3 : w'.cell? ⟨hb, 3, none⟩ = some y3 := by rw [cell_of_row _ _ _ _ _ _ hrow]; rfl
                  have c4 : w'.cell? ⟨hb, 4, none⟩ = some y4 := by rw [cell_of_row _ _ _ _ _ _ hrow]; rfl
                  have c5 : w'.cell? ⟨hb, 5, none⟩ = some y5 := by rw [cell_of_row _ _ _ _ _ _ hrow]; rfl
                  have c6 : w'.cell? ⟨hb, 6, none⟩ = some y6 := by rw [cell_of_row _ _ _ _ _ _ hrow]; rfl
                  have c7 : w'.cell? ⟨hb, 7, none⟩ = some y7 := by rw [cell_of_row _ _ _ _ _ _ hrow]; rfl
                  have c8 : w'.cell? ⟨hb, 8, none⟩ = some y8 := by rw [cell_of_row _ _ _ _ _ _ hrow]; rfl
                  have c9 : w'.cell? ⟨hb, 9, none⟩ = some y9 := by rw [cell_of_row _ _ _ _ _ _ hrow]; rfl
                  have fg : ∀ o, w'.frozen? ⟨hb, o, none⟩ = false := fun o => frozen_of_row _ hb o _ _ hrow
                  go_wp2_with fail
                  try refine ⟨hK, ?_⟩
                  generalize hW : World.setCell _ _ _ = W
                  obtain ⟨h10, c10⟩ := put10_head hrow _ _ _ _ _ _ _ _ _ _ hW
                  have hfin := hI.stored x17 h17 c10 h10 rfl
                  first | exact hfin | (simp only [Bool.if_true_left]; exact hfin)
              · rintro b a' w' ⟨hK, hI⟩ hall
                obtain ⟨hb, y0, y1, y2, y3, y4, y5, y6, y7, y8, y9, x17, hbl, hrow, hR⟩ := hI.b17 (hall 17 (by decide))
                rw [hR (hall 18 (by decide))] at hrow
                have hch15 := hI.ch
                have he := hK.eq
                clear hI hK
                generalize slotsOf sl15 a' = y at he x17
                refine hM a' w' (hJ a' w' ⟨y 17, y 0, y 1, y 2, y 3, y 4, y 5, y 6, y 7, y 8, y 9, y 10, y 11, y 12, y 13, y 14, y 15, y 16, ⟨hb, x17, hrow, hbl, hch15⟩, ?_⟩)
                rw [he]
                kernel_rfl
            case rest =>
              obtain ⟨hb, rfl, hhb, hbl, hcx⟩ := hcut
              rename World => wx
              have hpx := hcx.at (hca.at hpr (fun h => h)) (fun h => h)
              have hcbx := hcx.at hcb (fun h => h)
              have hohx := hcx.ownsRow (hca.ownsRow hoh (fun _ _ h => h)) (fun _ _ h => h)
              have hcwx := (hch.trans hca).trans hcx
              have hwr1 : wr.heap.size < wa.heap.size := lt_of_block hcb
              have hbw : w.heap.size < hb ∧ wr.heap.size < hb := ⟨by omega, by omega⟩
              have hlv : ∀ k, hv.ownBlock = some k → w.heap.size + 1 ≤ k ∧ k < wr.heap.size := fun k hk => hoh.lt k hk
              clear hpr hcb hoh hch hca hcx
              have e2 : wx.cell? ⟨hb, 2, none⟩ = some (.int .i32 (ld L t : Nat)) := by rw [cell_of_row _ _ _ _ _ _ hhb]; rfl
              have e3 : wx.cell? ⟨hb, 3, none⟩ = some (.int .i32 s.ts) := by rw [cell_of_row _ _ _ _ _ _ hhb]; rfl
              have p0 : wx.cell? ⟨w.heap.size, 0, none⟩ = some (.string S) := by rw [cell_of_row _ _ _ _ _ _ hpx]; rfl
              go_wp2_with fail
              refine Calls.mono (str_walk w.heap.size (ld L t) s.ts S wx hld (by omega) hn5 p0) ?_
              rintro e wb ⟨rfl, hcb2⟩
              have hXs : (S.extract (ld L t) s.ts).size = s.ts - ld L t := by rw [ByteArray.size_extract]; omega
              have hXb : ∀ i, ld L t + i < s.ts → bt (S.extract (ld L t) s.ts) i = bt S (ld L t + i) := fun i hi => bt_extract S (ld L t) s.ts i (by omega) hi
              generalize S.extract (ld L t) s.ts = X at *
              have hpb := hcb2.at hpx (fun h => h)
              have hcbb := hcb2.at hcbx (fun h => h)
              have hhbb := hcb2.at hhb (fun h => h)
              have hohb := hcb2.ownsRow hohx (fun _ _ h => h)
              have hcwb := hcwx.trans hcb2
              clear e2 e3 p0 hpx hcbx hhb hohx hcwx hcb2
              go_upto_if 71 with fail
              go_cut [14] from 72 to 81 (fun s14 wy => s14 = .pointer (some ⟨hb, 0, none⟩) ∧ wy.heap[hb]? = some (.cells #[.int .u64 ((mkHo S V (ld L t) t s).hd), .int .u64 ((mkHo S V (ld L t) t s).en), .int .i32 (ld L t : Nat), .int .i32 s.ts, .int .i32 (0), .int .i32 (0), .int .i32 s.vs, .int .i32 t, .int .u8 s.k, .bool (decide ((1 : Int) < (s.ve : Int) - s.vs))] 40 (0, 0)) ∧ Chg (fun i => i = hb) wb wy)
              case first =>
                rename_i J Kc hJ hM
                by_cases h8 : ld L t + 8 ≤ s.ts
                · have hd8 : decide ((8 : Int) ≤ (X.size : Int)) = true := by rw [decide_eq_true_iff]; omega
                  go_upto_region 18 with fail
                  have HX8 : Hid ((X.extract (X.size - 8) X.size).size = 8) := by
                    have : (X.extract (X.size - 8) X.size).size = 8 := by rw [ByteArray.size_extract]; omega
                    exact this
                  have hXl : (8 : Int) ≤ (X.size : Int) := by omega
                  have hXge : 8 ≤ X.size := by omega
                  have hXle : X.size ≤ 100000 := by omega
                  have HXs : Hid (X.size = s.ts - ld L t) := hXs
                  have hY1 : 8 ≤ (X.extract (X.size - 8) X.size).size := by rw [HX8.out]; exact Nat.le_refl _
                  have hY2 : (X.extract (X.size - 8) X.size).size ≤ 100000 := by rw [HX8.out]; omega
                  clear hXs
                  refine region_inv_op (fun a0 b a' w' => Kept kl18 a0 a' ∧ I18 hb wb [.string X, .int .u64 (w8 (bt X)), .string X, .string X, .int .i64 X.size, .int .i64 ((X.size : Int) - 8), .string (X.extract (X.size - 8) X.size), .int .u64 (w8 (bt (X.extract (X.size - 8) X.size))), .pointer (some ⟨hb, 0, none⟩), undef, .pointer (some ⟨hb, 1, none⟩)] (.int .u64 (w8 (bt X))) (.int .u64 (w8 (bt (X.extract (X.size - 8) X.size)))) (.int .u64 0) (.int .u64 0) (.int .i32 (ld L t : Nat)) (.int .i32 s.ts) (.int .i32 0) (.int .i32 0) (.int .i32 s.vs) (.int .i32 t) (.int .u8 s.k) (.bool (decide ((1 : Int) < (s.ve : Int) - s.vs))) b (slotsOf sl18 a') w') (fun a0 => a0.tmps.size = 116 ∧ a0.tmps.getD 15 undef = .string X ∧ a0.tmps.getD 14 undef = .pointer (some ⟨hb, 0, none⟩)) (by kernel_rfl) (by kernel_rfl) ⟨rfl, rfl, rfl⟩ (fun a0 => ⟨Kept.refl _ _, I18.first _ _ _ _ hhbb⟩) ?_ ?_
                  · rintro a0 ⟨hz116, hs15, hs14⟩
                    refine And.intro ?_ (And.intro ?_ (And.intro ?_ (And.intro ?_ (And.intro ?_ (And.intro ?_ (And.intro ?_ (And.intro ?_ (And.intro ?_ (And.intro ?_ (And.intro ?_ (And.intro ?_ trivial)))))))))))
                    · rintro b a' w' ⟨hK, hI⟩ hk hdep
                      have o15 : a'.tmps.getD 15 undef = .string X := (hK.get 15 (by decide)).trans hs15
                      have hfin := fin18 hK hz116 hI 0 (by omega) (by omega)
                      go_wp2_with fail
                      first | exact hfin | (simp only [Bool.if_true_left] at hfin; exact hfin)
                    · rintro b a' w' ⟨hK, hI⟩ hk hdep
                      have s72 : a'.tmps.getD 72 undef = .string X := hI.pure 0 (by omega) (by omega) (hdep { on := 0, ground := Ground.data } (by simp) rfl)
                      go_wp2_with fail
                      refine Calls.mono (word_walk X hXge hXle _) ?_
                      rintro e w2 ⟨rfl, N, rfl⟩
                      have hfin := fin18 hK hz116 (hI.world (Chg.drewN (fun _ => False) w' N)) 1 (by omega) (by omega)
                      go_wp2_with fail
                      first | exact hfin | (simp only [Bool.if_true_left] at hfin; exact hfin)
                    · rintro b a' w' ⟨hK, hI⟩ hk hdep
                      have o15 : a'.tmps.getD 15 undef = .string X := (hK.get 15 (by decide)).trans hs15
                      have hfin := fin18 hK hz116 hI 2 (by omega) (by omega)
                      go_wp2_with fail
                      first | exact hfin | (simp only [Bool.if_true_left] at hfin; exact hfin)
                    · rintro b a' w' ⟨hK, hI⟩ hk hdep
                      have o15 : a'.tmps.getD 15 undef = .string X := (hK.get 15 (by decide)).trans hs15
                      have hfin := fin18 hK hz116 hI 3 (by omega) (by omega)
                      go_wp2_with fail
                      first | exact hfin | (simp only [Bool.if_true_left] at hfin; exact hfin)
                    · rintro b a' w' ⟨hK, hI⟩ hk hdep
                      have s75 : a'.tmps.getD 75 undef = .string X := hI.pure 3 (by omega) (by omega) (hdep { on := 3, ground := Ground.data } (by simp) rfl)
                      have hfin := fin18 hK hz116 hI 4 (by omega) (by omega)
                      go_wp2_with fail
                      first | exact hfin | (simp only [Bool.if_true_left] at hfin; exact hfin)
                    · rintro b a' w' ⟨hK, hI⟩ hk hdep
                      have s76 : a'.tmps.getD 76 undef = .int .i64 X.size := hI.pure 4 (by omega) (by omega) (hdep { on := 4, ground := Ground.data } (by simp) rfl)
                      have hfin := fin18 hK hz116 hI 5 (by omega) (by omega)
                      go_wp2_with fail
                      first | exact hfin | (simp only [Bool.if_true_left] at hfin; exact hfin)
                    · rintro b a' w' ⟨hK, hI⟩ hk hdep
                      have s74 : a'.tmps.getD 74 undef = .string X := hI.pure 2 (by omega) (by omega) (hdep { on := 2, ground := Ground.data } (by simp) rfl)
                      have s77 : a'.tmps.getD 77 undef = .int .i64 ((X.size : Int) - 8) := hI.pure 5 (by omega) (by omega) (hdep { on := 5, ground := Ground.data } (by simp) rfl)
                      have hfin := fin18 hK hz116 hI 6 (by omega) (by omega)
                      go_wp2_with fail
                      first | exact hfin | (simp only [Bool.if_true_left] at hfin; exact hfin)
                    · rintro b a' w' ⟨hK, hI⟩ hk hdep
                      have s78 : a'.tmps.getD 78 undef = .string (X.extract (X.size - 8) X.size) := hI.pure 6 (by omega) (by omega) (hdep { on := 6, ground := Ground.data } (by simp) rfl)
                      go_wp2_with fail
                      refine Calls.mono (word_walk (X.extract (X.size - 8) X.size) hY1 hY2 _) ?_
                      rintro e w2 ⟨rfl, N, rfl⟩
                      have hfin := fin18 hK hz116 (hI.world (Chg.drewN (fun _ => False) w' N)) 7 (by omega) (by omega)
                      go_wp2_with fail
                      first | exact hfin | (simp only [Bool.if_true_left] at hfin; exact hfin)
                    · rintro b a' w' ⟨hK, hI⟩ hk hdep
                      have o14 : a'.tmps.getD 14 undef = .pointer (some ⟨hb, 0, none⟩) := (hK.get 14 (by decide)).trans hs14
                      have hfin := fin18 hK hz116 hI 8 (by omega) (by omega)
                      go_wp2_with fail
                      first | exact hfin | (simp only [Bool.if_true_left] at hfin; exact hfin)
                    · rintro b a' w' ⟨hK, hI⟩ hk hdep
                      have s80 : a'.tmps.getD 80 undef = .pointer (some ⟨hb, 0, none⟩) := hI.pure 8 (by omega) (by omega) (hdep { on := 8, ground := Ground.data } (by simp) rfl)
                      have s73 : a'.tmps.getD 73 undef = .int .u64 (w8 (bt X)) := hI.pure 1 (by omega) (by omega) (hdep { on := 1, ground := Ground.data } (by simp) rfl)
                      have hrow := hI.row
                      rw [hk] at hrow
                      have c0 : w'.cell? ⟨hb, 0, none⟩ = some (.int .u64 0) := by rw [cell_of_row _ _ _ _ _ _ hrow]; rfl
                      have fg := frozen_of_row _ hb 0 _ _ hrow
                      go_wp2_with fail
                      try refine ⟨hK, ?_⟩
                      first | exact hI.s9 | (simp only [Bool.if_true_left]; exact hI.s9)
                    · rintro b a' w' ⟨hK, hI⟩ hk hdep
                      have o14 : a'.tmps.getD 14 undef = .pointer (some ⟨hb, 0, none⟩) := (hK.get 14 (by decide)).trans hs14
                      have hfin := fin18 hK hz116 hI 10 (by omega) (by omega)
                      go_wp2_with fail
                      first | exact hfin | (simp only [Bool.if_true_left] at hfin; exact hfin)
                    · rintro b a' w' ⟨hK, hI⟩ hk hdep
                      have s81 : a'.tmps.getD 81 undef = .pointer (some ⟨hb, 1, none⟩) := hI.pure 10 (by omega) (by omega) (hdep { on := 10, ground := Ground.data } (by simp) rfl)
                      have s79 : a'.tmps.getD 79 undef = .int .u64 (w8 (bt (X.extract (X.size - 8) X.size))) := hI.pure 7 (by omega) (by omega) (hdep { on := 7, ground := Ground.data } (by simp) rfl)
                      have hrow := hI.row
                      rw [hk] at hrow
                      have c0 : w'.cell? ⟨hb, 1, none⟩ = some (.int .u64 0) := by rw [cell_of_row _ _ _ _ _ _ hrow]; rfl
                      have fg := frozen_of_row _ hb 1 _ _ hrow
                      go_wp2_with fail
                      try refine ⟨hK, ?_⟩
                      first | exact hI.s11 | (simp only [Bool.if_true_left]; exact hI.s11)
                  · rintro b a' w' ⟨hK, hI⟩ hall
                    have hrow := hI.row
                    rw [hall 9 (by decide), hall 11 (by decide)] at hrow
                    have hch18 := hI.ch
                    have hm1 : (mkHo S V (ld L t) t s).hd = w8 (bt X) := by
                      simp only [mkHo, if_pos h8, w8]
                      rw [hXb 0 (by omega), hXb 1 (by omega), hXb 2 (by omega), hXb 3 (by omega), hXb 4 (by omega), hXb 5 (by omega), hXb 6 (by omega), hXb 7 (by omega)]
                    have hYb : ∀ i, i < 8 → bt (X.extract (X.size - 8) X.size) i = bt S (s.ts - 8 + i) := fun i hi => by
                      have hXs := HXs.out
                      rw [bt_extract X _ _ i (Nat.le_refl _) (by omega), hXb _ (by omega)]
                      congr 1
                      omega
                    have hm2 : (mkHo S V (ld L t) t s).en = w8 (bt (X.extract (X.size - 8) X.size)) := by
                      simp only [mkHo, if_pos h8, w8]
                      rw [hYb 0 (by omega), hYb 1 (by omega), hYb 2 (by omega), hYb 3 (by omega), hYb 4 (by omega), hYb 5 (by omega), hYb 6 (by omega), hYb 7 (by omega)]
                    have he := hK.eq
                    have s14 : a'.tmps.getD 14 undef = .pointer (some ⟨hb, 0, none⟩) := hK.get 14 (by decide)
                    clear hI hK
                    generalize slotsOf kl18 a' = y at he
                    refine hM a' w' (hJ a' w' ⟨.pointer (some ⟨hb, 0, none⟩), y 0, y 1, y 2, y 3, y 4, y 5, y 6, y 7, y 8, y 9, ⟨rfl, by rw [hm1, hm2]; exact hrow, hch18⟩, ?_⟩)
                    rw [he]
                    kernel_rfl
                · have hd8 : decide ((8 : Int) ≤ (X.size : Int)) = false := by rw [decide_eq_false_iff_not]; omega
                  have hm1 : (mkHo S V (ld L t) t s).hd = 0 := by simp [mkHo, h8]
                  have hm2 : (mkHo S V (ld L t) t s).en = 0 := by simp [mkHo, h8]
                  go_wp2
                  go_meet
                  exact ⟨rfl, by rw [hm1, hm2]; exact hhbb, Chg.rfl' _ _⟩
              case rest =>
                obtain ⟨rfl, hhy, hcy⟩ := hcut
                rename World => wy
                have hpy := hcy.at hpb (fun h => by omega)
                have hcby := hcy.at hcbb (fun h => by omega)
                have hohy := hcy.ownsRow hohb (fun k hk e => by have := (hlv k hk).2; omega)
                have hcwy := hcwb.then hcy (fun i hi => Or.inr (by omega))
                have k4 : wy.cell? ⟨wr.heap.size, 4, none⟩ = some (.int .i32 s.vs) := by rw [cell_of_row _ _ _ _ _ _ hcby]; rfl
                have k5 : wy.cell? ⟨wr.heap.size, 5, none⟩ = some (.int .i32 s.ve) := by rw [cell_of_row _ _ _ _ _ _ hcby]; rfl
                clear hpb hcbb hhbb hohb hcwb hcy
                go_wp2_with fail
                refine Calls.mono (len_walk s.vs s.ve (by omega) (by omega) wy) ?_
                rintro e wz ⟨rfl, hcz⟩
                have hpz := hcz.at hpy (fun h => h)
                have hcbz := hcz.at hcby (fun h => h)
                have hhz := hcz.at hhy (fun h => h)
                have hohz := hcz.ownsRow hohy (fun _ _ h => h)
                have hcwz := hcwy.trans hcz
                clear k4 k5 hpy hcby hhy hohy hcwy hcz
                go_upto_if 85 with fail
                go_cut [14] from 86 to 92 (fun s14 wq => s14 = .pointer (some ⟨hb, 0, none⟩) ∧ wq.heap[hb]? = some (.cells (rowHo (mkHo S V (ld L t) t s)).toArray 40 (0, 0)) ∧ Chg (fun i => i = hb) wz wq)
                case first =>
                  have hcx : decide ((1 : Int) < (s.ve : Int) - s.vs) = (mkHo S V (ld L t) t s).cx := by
                    show _ = decide (s.vs + 1 < s.ve)
                    rw [decide_eq_decide]; omega
                  rw [hcx] at hhz
                  by_cases hvv : s.vs < s.ve
                  · have hd9 : decide ((0 : Int) < (s.ve : Int) - s.vs) = true := by rw [decide_eq_true_iff]; omega
                    obtain ⟨gv, vcap, _, hvform, _⟩ := ownsRow_form HV.out (by omega)
                    simp only [Value.slice.injEq] at hvform
                    obtain ⟨rfl, _, rfl⟩ := hvform
                    have hov := hcwz.ownsRow HV.out (fun _ _ h => h)
                    obtain ⟨sp, hsp⟩ := get_of (show s.vs < V.length by omega)
                    have v0 := own_at lenSp hov hsp 0 _ (by omega) rfl
                    have v1 := own_at lenSp hov hsp 1 _ (by omega) rfl
                    rw [Nat.add_zero] at v0
                    have k4 : wz.cell? ⟨wr.heap.size, 4, none⟩ = some (.int .i32 s.vs) := by rw [cell_of_row _ _ _ _ _ _ hcbz]; rfl
                    have e4 : wz.cell? ⟨hb, 4, none⟩ = some (.int .i32 0) := by rw [cell_of_row _ _ _ _ _ _ hhz]; rfl
                    have e5 : wz.cell? ⟨hb, 5, none⟩ = some (.int .i32 0) := by rw [cell_of_row _ _ _ _ _ _ hhz]; rfl
                    have ef : ∀ o, wz.frozen? ⟨hb, o, none⟩ = false := fun o => frozen_of_row _ hb o _ _ hhz
                    have hvl : (s.vs : Int) < (V.length : Int) := by omega
                    have hgd : V.getD s.vs ⟨0, 0⟩ = sp := by rw [List.getD_eq_getElem?_getD, hsp]; rfl
                    have hm1 : (mkHo S V (ld L t) t s).fa = sp.a := by simp [mkHo, hvv, hsp]
                    have hm2 : (mkHo S V (ld L t) t s).fb = sp.b := by simp [mkHo, hvv, hsp]
                    have h1 := heap_setCell_same wz hb 4 _ _ (.int .i32 sp.a) hhz
                    have h2 := heap_setCell_same _ hb 5 _ _ (.int .i32 sp.b) h1
                    go_wp2
                    go_meet
                    refine ⟨rfl, ?_, (Chg.setCell (fun i => i = hb) _ _ _ rfl).trans (Chg.setCell (fun i => i = hb) _ _ _ rfl)⟩
                    refine h2.trans ?_
                    unfold rowHo
                    rw [hm1, hm2]
                    rfl
                  · have hd9 : decide ((0 : Int) < (s.ve : Int) - s.vs) = false := by rw [decide_eq_false_iff_not]; omega
                    have hm1 : (mkHo S V (ld L t) t s).fa = 0 := by simp [mkHo, hvv]
                    have hm2 : (mkHo S V (ld L t) t s).fb = 0 := by simp [mkHo, hvv]
                    go_wp2
                    go_meet
                    refine ⟨rfl, ?_, Chg.rfl' _ _⟩
                    unfold rowHo
                    rw [hm1, hm2]
                    exact hhz
                case rest =>
                  obtain ⟨rfl, hhq, hcq⟩ := hcut
                  rename World => wq
                  have hpq := hcq.at hpz (fun h => by omega)
                  have hcbq := hcq.at hcbz (fun h => by omega)
                  have hohq := hcq.ownsRow hohz (fun k hk e => by have := (hlv k hk).2; omega)
                  have hcwq := hcwz.then hcq (fun i hi => Or.inr (by omega))
                  clear hpz hcbz hhz hohz hcwz hcq
                  have hll : (hl S V L t).length ≤ 300 := Nat.le_trans (hl_len t) (by omega)
                  obtain ⟨ha, hcap, rfl⟩ := len_of hohq
                  generalize hMM : (mkHo S V (ld L t) t s) = MM at *
                  have hsz : w.heap.size < wq.heap.size := lt_of_block hpq
                  go_upto_region 21 with fail
                  go_cut [7] from 93 to 102 (fun s7 wu => s7 = .pointer (some ⟨w.heap.size, 0, none⟩) ∧ ∃ hv', wu.heap[w.heap.size]? = some (patRow S hv' 0 0 (.slice va V.length vc) (.slice (some ⟨g, 0, none⟩) L.length sc)) ∧ wu.ownsRow (w.heap.size + 1) 40 10 hv' ((hl S V L t).length + 1) (cellsOfL rowHo (hl S V L t) ++ rowHo MM) ∧ Chg (fun i => i = w.heap.size ∨ (Value.slice ha (hl S V L t).length hcap).ownBlock = some i) wq wu)
                  case first =>
                    have cp : wq.cell? ⟨w.heap.size, 1, none⟩ = some (.slice ha (hl S V L t).length hcap) := by rw [cell_of_row _ _ _ _ _ _ hpq]; rfl
                    have e0 : wq.cell? ⟨hb, 0, none⟩ = some (.int .u64 MM.hd) := by rw [cell_of_row _ _ _ _ _ _ hhq]; rfl
                    have e1 : wq.cell? ⟨hb, 1, none⟩ = some (.int .u64 MM.en) := by rw [cell_of_row _ _ _ _ _ _ hhq]; rfl
                    have e2 : wq.cell? ⟨hb, 2, none⟩ = some (.int .i32 MM.la) := by rw [cell_of_row _ _ _ _ _ _ hhq]; rfl
                    have e3 : wq.cell? ⟨hb, 3, none⟩ = some (.int .i32 MM.lb) := by rw [cell_of_row _ _ _ _ _ _ hhq]; rfl
                    have e4 : wq.cell? ⟨hb, 4, none⟩ = some (.int .i32 MM.fa) := by rw [cell_of_row _ _ _ _ _ _ hhq]; rfl
                    have e5 : wq.cell? ⟨hb, 5, none⟩ = some (.int .i32 MM.fb) := by rw [cell_of_row _ _ _ _ _ _ hhq]; rfl
                    have e6 : wq.cell? ⟨hb, 6, none⟩ = some (.int .i32 MM.va) := by rw [cell_of_row _ _ _ _ _ _ hhq]; rfl
                    have e7 : wq.cell? ⟨hb, 7, none⟩ = some (.int .i32 MM.sg) := by rw [cell_of_row _ _ _ _ _ _ hhq]; rfl
                    have e8 : wq.cell? ⟨hb, 8, none⟩ = some (.int .u8 MM.k) := by rw [cell_of_row _ _ _ _ _ _ hhq]; rfl
                    have e9 : wq.cell? ⟨hb, 9, none⟩ = some (.bool MM.cx) := by rw [cell_of_row _ _ _ _ _ _ hhq]; rfl
                    have hne : ∀ i, (Value.slice ha (hl S V L t).length hcap).ownBlock = some i → w.heap.size ≠ i := fun i hi e => by have := (hlv i hi).1; omega
                    have hbq : hb < wq.heap.size := lt_of_block hhq
                    go_region_law (refine step_append_new rfl (.tmp 97) (.tmp 99) 35 rfl (w.heap.size + 1) 40 _ 10 48 info40 rfl (by decide) Yba.underlying35 (.slice ha (hl S V L t).length hcap) (hl S V L t).length (cellsOfL rowHo (hl S V L t)) rfl (((Chg.drew (fun _ => False) wq).ownsRow hohq (fun _ _ h => h)).alloc _) wq.heap.size 1 (rowHo MM) rfl rfl (heap_alloc_new wq.drew _) (by simp [Value.oneCell']) (by omega) (by omega) (by simp; omega) ?_; intro g2 cap2 w5 m1 m2 m3; have hp5 := m2.at ((Chg.alloc (fun _ => False) wq.drew _).at ((Chg.drew (fun _ => False) wq).at hpq (fun h => h)) (fun h => h)) (fun h => hne _ h rfl); have cp5 : w5.cell? ⟨w.heap.size, 1, none⟩ = some (.slice ha (hl S V L t).length hcap) := by rw [cell_of_row _ _ _ _ _ _ hp5]; rfl
                                   have fp5 := frozen_of_row _ w.heap.size 1 _ _ hp5)
                    all_goals
                      (go_wp2
                       go_meet
                       refine ⟨rfl, .slice (some ⟨g2, 0, none⟩) ((hl S V L t).length + 1) cap2, heap_setCell_same w5 _ 1 _ _ _ hp5, (Chg.setCell (fun i => i = w.heap.size) w5 _ _ rfl).ownsRow m1 (fun k hk e => by have := (m1.lt k hk).1; omega), ?_⟩
                       exact ((Chg.drew _ wq).trans ((Chg.alloc _ _ _).trans (m2.mono (fun _ h => Or.inr h)))).trans (Chg.setCell _ w5 _ _ (Or.inl rfl)))
                  case rest =>
                    obtain ⟨rfl, hv', hpu, hohu, hcu⟩ := hcut
                    rename World => wu
                    have hcbu := hcu.at hcbq (fun h => by
                      rcases h with h | h
                      · omega
                      · have := (hlv _ h).2; omega)
                    have k3 : wu.cell? ⟨wr.heap.size, 3, none⟩ = some (.int .i32 s.te) := by rw [cell_of_row _ _ _ _ _ _ hcbu]; rfl
                    have hcwu := hcwq.then hcu (fun i hi => Or.inr (by
                      rcases hi with h | h
                      · omega
                      · have := (hlv _ h).1; omega))
                    go_wp2
                    go_roundg (L.length - (t + 1))
                    case measure => omega
                    case rel =>
                      refine ⟨t + 1, hv', by omega, by rw [ld_hole hsg hk], by go_num, hpu, ?_, hcwu⟩
                      rw [hl_hole hsg hk, fm_append, fm_one, hMM, List.length_append]
                      exact hohu
        · obtain rfl : t = L.length := by omega
          have q2 : wr.cell? ⟨w.heap.size, 2, none⟩ = some (.int .i32 0) := by rw [cell_of_row _ _ _ _ _ _ hpr]; rfl
          have q3 : wr.cell? ⟨w.heap.size, 3, none⟩ = some (.int .i32 0) := by rw [cell_of_row _ _ _ _ _ _ hpr]; rfl
          have qf : ∀ o, wr.frozen? ⟨w.heap.size, o, none⟩ = false := fun o => frozen_of_row _ w.heap.size o _ _ hpr
          have hln := HWF.out.ld_n L.length
          have h1 := heap_setCell_same wr w.heap.size 2 _ _ (.int .i32 (ld L L.length : Nat)) hpr
          have h2 := heap_setCell_same _ w.heap.size 3 _ _ (.int .i32 S.size) h1
          go_wp2
          go_ret
          refine ⟨rfl, hv, h2, ?_, ?_⟩
          · exact ((Chg.setCell (fun i => i = w.heap.size) wr ⟨w.heap.size, 2, none⟩ _ rfl).trans (Chg.setCell (fun i => i = w.heap.size) _ ⟨w.heap.size, 3, none⟩ _ rfl)).ownsRow hoh (fun k hk e => by have := (hoh.lt k hk).1; omega)
          · exact hch.then ((Chg.setCell (fun i => i = w.heap.size) wr ⟨w.heap.size, 2, none⟩ _ rfl).trans (Chg.setCell (fun i => i = w.heap.size) _ ⟨w.heap.size, 3, none⟩ _ rfl)) (fun i hi => Or.inr (by omega))
end Go.Proofs.Ybulkamty
