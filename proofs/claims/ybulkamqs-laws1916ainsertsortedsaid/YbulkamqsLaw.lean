/-
  OUR OWN. b1916a: LawS1916AInsertSorted (3), walked.
-/
import Derived.Test.YbulkamqsLaw1
namespace Go.Proofs.Ybulkamqs
open Go.RowKit
set_option linter.unusedVariables false
set_option linter.unusedSimpArgs false
set_option maxRecDepth 20000 in
set_option maxHeartbeats 20000000 in
theorem law_walk (face : Nat) (hface : face < 256) (p q : Bx) (hp : p.Ok) (hq : q.Ok) (a0 : Option Addr) (len0 cap0 : Nat) (xs : Nat → Int) (ko turn : Bool) (r0 r1 r2 : Int) (hr0 : Sm r0) (hr1 : Sm r1) (hr2 : Sm r2) (w : World)
    (hx : ∀ i, i < len0 → ∃ b off, a0 = some ⟨b, off, none⟩ ∧ w.cell? ⟨b, off + i, none⟩ = some (.int .i16 (xs i)) ∧ -32768 ≤ xs i ∧ xs i ≤ 32767) :
    Calls Yba.prog 3 #[.int .u8 face, .agg (cells8 p), .agg (cells8 q), .slice a0 len0 cap0, .bool ko, .bool turn, .agg #[.int .i8 r0, .int .i8 r1, .int .i8 r2]] w fun e w' => e = .returned (.bool true) ∧ Chg (fun _ => False) w w' := by
  have HX : Hid (∀ i, i < len0 → ∃ b off, a0 = some ⟨b, off, none⟩ ∧ w.cell? ⟨b, off + i, none⟩ = some (.int .i16 (xs i)) ∧ -32768 ≤ xs i ∧ xs i ≤ 32767) := hx
  clear hx
  by_cases hbig : len0 ≤ 1024
  · go_enter Yba.func3, Yba.ntmps3
    go_upto_region 3 with fail
    have hst3 := St.first w p q r0 r1 r2
    generalize ((w.alloc (Obj.cells (cells8 p) 25)).alloc (Obj.cells (cells8 q) 25)).alloc (Obj.cells #[.int .i8 r0, .int .i8 r1, .int .i8 r2] 23) = w3 at *
    obtain ⟨i0, hi, hz0, hz1, hz2⟩ := info_cut info3r
    obtain ⟨w4, hmk, ho4, hg4⟩ := run_make_full (P := Yba.prog) w3 w3.heap.size 27 3 i0 (.int .i64 0) 1 Yba.underlying27 hi hz0 hz1 .i64 .i64 len0 (by rw [hz2]; omega) (by unfold maxLen; omega) (Nat.le_refl _)
    have hc4 : Chg (fun _ => False) w3 w4 := Chg.grown hg4 (fun k hk => by cases hk)
    have hst4 := hst3.kept hc4 (fun _ h => h.elim)
    have hgs3 : w.heap.size + 3 ≤ w3.heap.size := hst3.size
    have ho4 : w4.ownsRow w3.heap.size 3 1 (.slice (some ⟨w3.heap.size, 0, none⟩) len0 len0) len0 (ints (List.replicate len0 0)) := by rw [← made3]; exact ho4
    clear hi hz0 hz1 hz2 hg4 hst3
    generalize hgs : w3.heap.size = gs at *
    go_wp2_with fail
    clear hmk hc4
    go_loopg [38] len0 (fun gk i wr => ∃ (t : Nat) (zs : List Int), gk + t = len0 ∧ i = .int .i64 t ∧ zs.length = len0 ∧ wr.ownsRow gs 3 1 (.slice (some ⟨gs, 0, none⟩) len0 len0) len0 (ints zs) ∧ St w p q r0 r1 r2 wr)
    case atStart => exact ⟨0, List.replicate len0 0, rfl, rfl, by simp, ho4, hst4⟩
    case round =>
      obtain ⟨t, zs, hgt, rfl, hzl, hor, hstr⟩ := hrel
      by_cases hlt : t < len0
      · obtain ⟨b, off, rfl, hc, hx1, hx2⟩ := HX.out t hlt
        have hc' := hstr.ch.cell hc (fun h => h)
        obtain ⟨y, hy⟩ : ∃ y, zs[t]? = some y := ⟨zs[t], List.getElem?_eq_getElem (by omega)⟩
        have ct := ownsRow_cell hor (ints_at hy)
        have ft := ownsRow_free hor t
        clear hc
        go_wp2
        go_roundg (len0 - (t + 1))
        case measure => omega
        case rel =>
          refine ⟨t + 1, zs.set t (xs t), by omega, by go_num, by simpa using hzl, ?_, hstr.kept (Chg.setCell (fun i => i = gs) wr ⟨gs, t, none⟩ _ rfl) (fun i hi => by omega)⟩
          have := ownsRow_set hor t (by simp; omega) (.int .i64 (xs t))
          rwa [← List.map_set] at this
      · obtain rfl : len0 = t := by omega
        go_wp2_with fail
        refine Calls.mono (sort_own gs gs len0 len0 zs wr hzl.symm (by omega) hor) ?_
        rintro e w5 ⟨rfl, ho5, hc5⟩
        have hst5 := hstr.kept hc5 (fun i hi => by omega)
        go_wp2_with fail
        refine Calls.mono (rev_own gs gs len0 len0 _ w5 (by simp [hzl]) (by omega) ho5) ?_
        rintro e w6 ⟨rfl, ho6, hc6⟩
        have hst6 := hst5.kept hc6 (fun i hi => by omega)
        obtain ⟨Z, hZ⟩ : ∃ Z, Z = (zs.mergeSort fun x y => decide (x ≤ y)).reverse := ⟨_, rfl⟩
        have hZl : Z.length = len0 := by rw [hZ]; simp [hzl]
        have hZs : Z.Pairwise (fun a b => b ≤ a) := by rw [hZ]; exact desc zs
        rw [← hZ] at ho6
        have HZS : Hid (Z.Pairwise (fun a b => b ≤ a)) := hZs
        clear hZ hc6 hc5 ho5 hst5 hor hstr hzl hZs ho4 hst4
        obtain ⟨i0, hi, hz0, hz1, hz2⟩ := info_cut info35
        obtain ⟨w7, hmk, ho7, hg7⟩ := run_make_full (P := Yba.prog) w6 w6.heap.size 30 35 i0 (.agg #[.int .i64 0, .int .i64 0, .int .i64 0, .int .i64 0, .int .i64 0, .int .i64 0, .int .i64 0]) 7 Yba.underlying30 hi hz0 hz1 .i64 .i64 len0 (by rw [hz2]; omega) (by unfold maxLen; omega) (Nat.le_refl _)
        have hc7 : Chg (fun _ => False) w6 w7 := Chg.grown hg7 (fun k hk => by cases hk)
        have hst7 := hst6.kept hc7 (fun _ h => h.elim)
        have hos7 := hc7.ownsRow ho6 (fun _ _ h => h)
        have hgo6 : gs < w6.heap.size := (ho6.lt gs rfl).2
        have ho7 : w7.ownsRow w6.heap.size 35 7 (.slice (some ⟨w6.heap.size, 0, none⟩) len0 len0) len0 (rows (List.replicate len0 z7)) := by rw [← made35]; exact ho7
        clear hi hz0 hz1 hz2 hg7 hst6
        generalize hgo : w6.heap.size = go at *
        go_wp2_with fail
        clear hmk hc7 ho6
        go_loopg [58] len0 (fun gk i wr => ∃ (t : Nat) (L : List Sz), gk + t = len0 ∧ i = .int .i64 t ∧ L.length = len0 ∧ wr.ownsRow go 35 7 (.slice (some ⟨go, 0, none⟩) len0 len0) len0 (rows L) ∧ wr.ownsRow gs 3 1 (.slice (some ⟨gs, 0, none⟩) len0 len0) len0 (ints Z) ∧
          (∀ i s, i < t → L[i]? = some s → Z[i]? = some s.n) ∧ St w p q r0 r1 r2 wr)
        case atStart => exact ⟨0, List.replicate len0 z7, rfl, rfl, by simp, ho7, hos7, fun i s h => by omega, hst7⟩
        case round =>
          obtain ⟨t, L, hgt, rfl, hLl, hol, hoz, hLZ, hstr⟩ := hrel
          by_cases hlt : t < len0
          · obtain ⟨y, hy⟩ : ∃ y, Z[t]? = some y := ⟨Z[t], List.getElem?_eq_getElem (by omega)⟩
            have ct := ownsRow_cell hoz (ints_at hy)
            obtain ⟨s0, hs0⟩ : ∃ s, L[t]? = some s := ⟨L[t], List.getElem?_eq_getElem (by omega)⟩
            obtain ⟨f0, f1, f2, f3, f4, f5, f6⟩ := szAt_of hol hs0
            have fg : ∀ o, wr.frozen? ⟨go, o, none⟩ = false := fun o => ownsRow_free hol o
            go_wp2
            go_roundg (len0 - (t + 1))
            case measure => omega
            case rel =>
              have hgs : gs ≠ go := by omega
              have ho' := own_put7 hol t (by omega) ⟨⟨t, 0, 0, 0, 0, 0⟩, y⟩
              have hc' := put7_chg wr go (t * 7) (.int .i64 t) (.int .i64 0) (.int .i64 0) (.int .i64 0) (.int .i64 0) (.int .i64 0) (.int .i64 y)
              refine ⟨t + 1, L.set t ⟨⟨t, 0, 0, 0, 0, 0⟩, y⟩, by omega, by go_num, by simpa using hLl, ho', hc'.ownsRow hoz (fun k hk e => by simp [Value.ownBlock] at hk; omega), ?_, hstr.kept hc' (fun i hi => by omega)⟩
              intro i s hi hs
              rw [List.getElem?_set] at hs
              by_cases e : t = i
              · subst e
                rw [if_pos rfl, if_pos (by omega)] at hs
                cases hs
                exact hy
              · rw [if_neg e] at hs
                exact hLZ i s (by omega) hs
          · obtain rfl : len0 = t := by omega
            go_wp2_with fail
            obtain ⟨fc, hfc, hfe⟩ : ∃ fc : Nat, fc < 6 ∧ (face : Int) % 6 = (fc : Int) := ⟨face % 6, by omega, by omega⟩
            rw [hfe]
            have hbw := build_walk fc go go len0 L wr hfc (by omega) (by rw [hLl]; exact hol)
            rw [hLl] at hbw
            refine Calls.mono hbw ?_
            rintro e w8 ⟨rfl, A, hsp, hone, hoA, hdis, hc8⟩
            have HDIS : Hid (∀ j, j < 6 → j ≠ fc → ∀ k, (A fc).ownBlock = some k → A j ≠ .slice (some ⟨k, 0, none⟩) 1 1) := hdis
            clear hdis
            have hst8 := hstr.kept hc8 (fun _ h => h.elim)
            have hol8 := hc8.ownsRow hol (fun _ _ h => h)
            have hoz8 := hc8.ownsRow hoz (fun _ _ h => h)
            have hgow : go < wr.heap.size := (hol.lt go rfl).2
            generalize wr.heap.size = sb at *
            have HOA : Hid (w8.ownsRow (sb + 1) 35 7 (A fc) len0 (rows L)) := hoA
            have HOL : Hid (w8.ownsRow go 35 7 (.slice (some ⟨go, 0, none⟩) len0 len0) len0 (rows L)) := hol8
            have HOZ : Hid (w8.ownsRow gs 3 1 (.slice (some ⟨gs, 0, none⟩) len0 len0) len0 (ints Z)) := hoz8
            have HONE : Hid (∀ j, j < 6 → j ≠ fc → OneBox w8 (A j) j) := hone
            have HLZ : Hid (∀ i s, i < len0 → L[i]? = some s → Z[i]? = some s.n) := hLZ
            have HST : Hid (St w p q r0 r1 r2 w8) := hst8
            clear hbw hoA hol8 hoz8 hone hLZ hst8 hstr hol hoz hos7 ho7 hst7 hc8
            have hrf := HST.out.rf
            have c0 : w8.cell? ⟨w.heap.size + 1 + 1, 0, none⟩ = some (.int .i8 r0) := by rw [cell_of_row _ _ _ _ _ _ hrf]; rfl
            have c1 : w8.cell? ⟨w.heap.size + 1 + 1, 1, none⟩ = some (.int .i8 r1) := by rw [cell_of_row _ _ _ _ _ _ hrf]; rfl
            have c2 : w8.cell? ⟨w.heap.size + 1 + 1, 2, none⟩ = some (.int .i8 r2) := by rw [cell_of_row _ _ _ _ _ _ hrf]; rfl
            have s0 : w8.cell? ⟨sb, 14, none⟩ = some (.int .i64 0) := by rw [cell_of_row _ _ _ _ _ _ hsp]; rfl
            have s1 : w8.cell? ⟨sb, 15, none⟩ = some (.int .i64 0) := by rw [cell_of_row _ _ _ _ _ _ hsp]; rfl
            have s2 : w8.cell? ⟨sb, 16, none⟩ = some (.int .i64 0) := by rw [cell_of_row _ _ _ _ _ _ hsp]; rfl
            have s3 : w8.cell? ⟨sb, 17, none⟩ = some (.bool false) := by rw [cell_of_row _ _ _ _ _ _ hsp]; rfl
            have s4 : w8.cell? ⟨sb, 18, none⟩ = some (.bool false) := by rw [cell_of_row _ _ _ _ _ _ hsp]; rfl
            have sf : ∀ o, w8.frozen? ⟨sb, o, none⟩ = false := fun o => frozen_of_row _ sb o _ _ hsp
            have hsb8 : sb < w8.heap.size := lt_of_block hsp
            have hf8 : w.heap.size + 1 + 1 < w8.heap.size := lt_of_block hrf
            unfold Sm at hr0 hr1 hr2
            go_wp2_with fail
            have hsq := sp_fit hsp r0 r1 r2 turn ko (W := _) rfl
            generalize ((((w8.setCell ⟨sb, 14, none⟩ (.int .i64 r0)).setCell ⟨sb, 15, none⟩ (.int .i64 r1)).setCell ⟨sb, 16, none⟩ (.int .i64 r2)).setCell ⟨sb, 17, none⟩ (.bool turn)).setCell ⟨sb, 18, none⟩ (.bool ko) = w9 at *
            obtain ⟨hsp9, hc9, hz9⟩ := hsq
            have hfi := heap_alloc_new w9 (Obj.cells #[.int .i64 r0, .int .i64 r1, .int .i64 r2] 31)
            have hsp10 := (Chg.alloc (fun _ => False) w9 (Obj.cells #[.int .i64 r0, .int .i64 r1, .int .i64 r2] 31)).at hsp9 (fun h => h)
            have hc10 : Chg (fun i => i = sb) w8 (w9.alloc (Obj.cells #[.int .i64 r0, .int .i64 r1, .int .i64 r2] 31)) := hc9.trans (Chg.alloc _ _ _)
            generalize w9.alloc (Obj.cells #[.int .i64 r0, .int .i64 r1, .int .i64 r2] 31) = w10 at *
            rw [hz9] at hfi
            generalize hfb : w8.heap.size = fb at *
            have hgo8 := (HOL.out.lt go rfl).1
            have HST10 : Hid (St w p q r0 r1 r2 w10) := HST.out.kept hc10 (fun i hi => by omega)
            have HOA10 : Hid (w10.ownsRow (sb + 1) 35 7 (A fc) len0 (rows L)) := hc10.ownsRow HOA.out (fun k hk e => by have := (HOA.out.lt k hk).1; omega)
            have HOL10 : Hid (w10.ownsRow go 35 7 (.slice (some ⟨go, 0, none⟩) len0 len0) len0 (rows L)) := hc10.ownsRow HOL.out (fun k hk e => by simp [Value.ownBlock] at hk; omega)
            have HOZ10 : Hid (w10.ownsRow gs 3 1 (.slice (some ⟨gs, 0, none⟩) len0 len0) len0 (ints Z)) := hc10.ownsRow HOZ.out (fun k hk e => by simp [Value.ownBlock] at hk; omega)
            have HONE10 : Hid (∀ j, j < 6 → j ≠ fc → OneBox w10 (A j) j) := fun j hj hjf => (HONE.out j hj hjf).kept hc10 (fun g hg e => by subst e; rw [hsp] at hg; cases hg)
            clear c0 c1 c2 s0 s1 s2 s3 s4 sf hsp hsp9 hc9 hc10 HST HOA HOL HOZ HONE hrf
            go_cut [23, 24] from 101 to 104 (fun s23 s24 wx => ∃ pb qb, s23 = .pointer (some ⟨pb, 0, none⟩) ∧ s24 = .pointer (some ⟨qb, 0, none⟩) ∧ wx.heap[pb]? = some (.cells (cells6 p) 33 (0, 0)) ∧ wx.heap[qb]? = some (.cells (cells6 q) 33 (0, 0)) ∧ w10.heap.size ≤ pb ∧ w10.heap.size ≤ qb ∧ Chg (fun _ => False) w10 wx)
            case first =>
              have hp10 := HST10.out.rp
              have hq10 := HST10.out.rq
              refine region_inv_at (fun a0 b a' w' => ∃ v23 v24 v101 v102 v103 v104, a' = (((((a0.put (some 101) v101).put (some 102) v102).put (some 103) v103).put (some 104) v104).put (some 23) v23).put (some 24) v24 ∧ I23 w10 p q b v23 v24 v101 v102 v103 v104 w') (by kernel_rfl) (by kernel_rfl) ⟨undef, undef, undef, undef, undef, undef, rfl, I23.first w10 p q⟩ ?_ ?_
              · refine And.intro ?_ (And.intro ?_ (And.intro ?_ (And.intro ?_ (And.intro ?_ (And.intro ?_ (And.intro ?_ (And.intro ?_ trivial)))))))
                · rintro b a' w' ⟨v23, v24, v101, v102, v103, v104, rfl, hI⟩ hk hdep
                  have hrow := hI.ch.at hp10 (fun h => h)
                  have c0 : w'.cell? ⟨w.heap.size, 0, none⟩ = some (.int .i8 p.l0) := by rw [cell_of_row _ _ _ _ _ _ hrow]; rfl
                  have c1 : w'.cell? ⟨w.heap.size, 1, none⟩ = some (.int .i8 p.l1) := by rw [cell_of_row _ _ _ _ _ _ hrow]; rfl
                  have c2 : w'.cell? ⟨w.heap.size, 2, none⟩ = some (.int .i8 p.l2) := by rw [cell_of_row _ _ _ _ _ _ hrow]; rfl
                  have c3 : w'.cell? ⟨w.heap.size, 3, none⟩ = some (.int .i8 p.h0) := by rw [cell_of_row _ _ _ _ _ _ hrow]; rfl
                  have c4 : w'.cell? ⟨w.heap.size, 4, none⟩ = some (.int .i8 p.h1) := by rw [cell_of_row _ _ _ _ _ _ hrow]; rfl
                  have c5 : w'.cell? ⟨w.heap.size, 5, none⟩ = some (.int .i8 p.h2) := by rw [cell_of_row _ _ _ _ _ _ hrow]; rfl
                  go_wp2_with fail
                  exact ⟨_, _, _, _, _, _, ⟨rfl, rfl, rfl, rfl, rfl, rfl⟩, hI.s0⟩
                · rintro b a' w' ⟨v23, v24, v101, v102, v103, v104, rfl, hI⟩ hk hdep
                  obtain rfl := hI.b0 (hdep { on := 0, ground := Ground.data } (by simp) rfl)
                  go_wp2_with fail
                  refine Calls.mono (cub_walk p hp _) ?_
                  rintro e w2 ⟨rfl, hc2⟩
                  go_wp2_with fail
                  refine ⟨v23, v24, .agg (cells8 p), .agg (cells6 p), v103, v104, rfl, ?_⟩
                  simp only [Bool.if_true_left]
                  exact hI.s1 hc2
                · rintro b a' w' ⟨v23, v24, v101, v102, v103, v104, rfl, hI⟩ hk hdep
                  have hrow := hI.ch.at hq10 (fun h => h)
                  have c0 : w'.cell? ⟨w.heap.size + 1, 0, none⟩ = some (.int .i8 q.l0) := by rw [cell_of_row _ _ _ _ _ _ hrow]; rfl
                  have c1 : w'.cell? ⟨w.heap.size + 1, 1, none⟩ = some (.int .i8 q.l1) := by rw [cell_of_row _ _ _ _ _ _ hrow]; rfl
                  have c2 : w'.cell? ⟨w.heap.size + 1, 2, none⟩ = some (.int .i8 q.l2) := by rw [cell_of_row _ _ _ _ _ _ hrow]; rfl
                  have c3 : w'.cell? ⟨w.heap.size + 1, 3, none⟩ = some (.int .i8 q.h0) := by rw [cell_of_row _ _ _ _ _ _ hrow]; rfl
                  have c4 : w'.cell? ⟨w.heap.size + 1, 4, none⟩ = some (.int .i8 q.h1) := by rw [cell_of_row _ _ _ _ _ _ hrow]; rfl
                  have c5 : w'.cell? ⟨w.heap.size + 1, 5, none⟩ = some (.int .i8 q.h2) := by rw [cell_of_row _ _ _ _ _ _ hrow]; rfl
                  go_wp2_with fail
                  exact ⟨_, _, _, _, _, _, ⟨rfl, rfl, rfl, rfl, rfl, rfl⟩, hI.s2⟩
                · rintro b a' w' ⟨v23, v24, v101, v102, v103, v104, rfl, hI⟩ hk hdep
                  obtain rfl := hI.b2 (hdep { on := 2, ground := Ground.data } (by simp) rfl)
                  go_wp2_with fail
                  refine Calls.mono (cub_walk q hq _) ?_
                  rintro e w2 ⟨rfl, hc2⟩
                  go_wp2_with fail
                  refine ⟨v23, v24, v101, v102, .agg (cells8 q), .agg (cells6 q), rfl, ?_⟩
                  simp only [Bool.if_true_left]
                  exact hI.s3 hc2
                · rintro b a' w' ⟨v23, v24, v101, v102, v103, v104, rfl, hI⟩ hk hdep
                  go_wp2_with fail
                  exact ⟨_, _, _, _, _, _, ⟨rfl, rfl, rfl, rfl, rfl, rfl⟩, hI.s4 hk _ _ _ _ _ _⟩
                · rintro b a' w' ⟨v23, v24, v101, v102, v103, v104, rfl, hI⟩ hk hdep
                  go_wp2_with fail
                  exact ⟨_, _, _, _, _, _, ⟨rfl, rfl, rfl, rfl, rfl, rfl⟩, hI.s5 hk _ _ _ _ _ _⟩
                · rintro b a' w' ⟨v23, v24, v101, v102, v103, v104, rfl, hI⟩ hk hdep
                  have hba := hdep { on := 4, ground := Ground.data } (by simp) rfl
                  obtain rfl := hI.b1 (hdep { on := 1, ground := Ground.data } (by simp) rfl)
                  obtain ⟨pb, x0, x1, x2, x3, x4, x5, rfl, hpl, hrow, _⟩ := hI.b4 hba
                  have c0 : w'.cell? ⟨pb, 0, none⟩ = some x0 := by rw [cell_of_row _ _ _ _ _ _ hrow]; rfl
                  have c1 : w'.cell? ⟨pb, 1, none⟩ = some x1 := by rw [cell_of_row _ _ _ _ _ _ hrow]; rfl
                  have c2 : w'.cell? ⟨pb, 2, none⟩ = some x2 := by rw [cell_of_row _ _ _ _ _ _ hrow]; rfl
                  have c3 : w'.cell? ⟨pb, 3, none⟩ = some x3 := by rw [cell_of_row _ _ _ _ _ _ hrow]; rfl
                  have c4 : w'.cell? ⟨pb, 4, none⟩ = some x4 := by rw [cell_of_row _ _ _ _ _ _ hrow]; rfl
                  have c5 : w'.cell? ⟨pb, 5, none⟩ = some x5 := by rw [cell_of_row _ _ _ _ _ _ hrow]; rfl
                  have fg : ∀ o, w'.frozen? ⟨pb, o, none⟩ = false := fun o => frozen_of_row _ pb o _ _ hrow
                  go_wp2_with fail
                  refine ⟨_, _, _, _, _, _, ⟨rfl, rfl, rfl, rfl, rfl, rfl⟩, ?_⟩
                  generalize hW : World.setCell _ _ _ = W
                  obtain ⟨h6, c6⟩ := put6_head hrow _ _ _ _ _ _ hW
                  exact hI.s6 hba c6 h6
                · rintro b a' w' ⟨v23, v24, v101, v102, v103, v104, rfl, hI⟩ hk hdep
                  have hba := hdep { on := 5, ground := Ground.data } (by simp) rfl
                  obtain rfl := hI.b3 (hdep { on := 3, ground := Ground.data } (by simp) rfl)
                  obtain ⟨pb, x0, x1, x2, x3, x4, x5, rfl, hpl, hrow, _⟩ := hI.b5 hba
                  have c0 : w'.cell? ⟨pb, 0, none⟩ = some x0 := by rw [cell_of_row _ _ _ _ _ _ hrow]; rfl
                  have c1 : w'.cell? ⟨pb, 1, none⟩ = some x1 := by rw [cell_of_row _ _ _ _ _ _ hrow]; rfl
                  have c2 : w'.cell? ⟨pb, 2, none⟩ = some x2 := by rw [cell_of_row _ _ _ _ _ _ hrow]; rfl
                  have c3 : w'.cell? ⟨pb, 3, none⟩ = some x3 := by rw [cell_of_row _ _ _ _ _ _ hrow]; rfl
                  have c4 : w'.cell? ⟨pb, 4, none⟩ = some x4 := by rw [cell_of_row _ _ _ _ _ _ hrow]; rfl
                  have c5 : w'.cell? ⟨pb, 5, none⟩ = some x5 := by rw [cell_of_row _ _ _ _ _ _ hrow]; rfl
                  have fg : ∀ o, w'.frozen? ⟨pb, o, none⟩ = false := fun o => frozen_of_row _ pb o _ _ hrow
                  go_wp2_with fail
                  refine ⟨_, _, _, _, _, _, ⟨rfl, rfl, rfl, rfl, rfl, rfl⟩, ?_⟩
                  generalize hW : World.setCell _ _ _ = W
                  obtain ⟨h6, c6⟩ := put6_head hrow _ _ _ _ _ _ hW
                  exact hI.s7 hba c6 h6
              · rintro b a' w' ⟨v23, v24, v101, v102, v103, v104, rfl, hI⟩ hall
                obtain ⟨pb, x0, x1, x2, x3, x4, x5, rfl, hpl, hprow, hp6⟩ := hI.b4 (hall 4 (by decide))
                obtain ⟨qb, y0, y1, y2, y3, y4, y5, rfl, hql, hqrow, hq7⟩ := hI.b5 (hall 5 (by decide))
                rw [hp6 (hall 6 (by decide))] at hprow
                rw [hq7 (hall 7 (by decide))] at hqrow
                go_wp2_with fail
                go_meet
                exact ⟨pb, qb, rfl, rfl, hprow, hqrow, hpl, hql, hI.ch⟩
            case rest =>
              obtain ⟨pb, qb, rfl, rfl, hpb, hqb, hpl, hql, hcx⟩ := hcut
              rename World => wx
              have hspx := hcx.at hsp10 (fun h => h)
              have hfix := hcx.at hfi (fun h => h)
              have hoAx := hcx.ownsRow HOA10.out (fun _ _ h => h)
              have HOLx : Hid (wx.ownsRow go 35 7 (.slice (some ⟨go, 0, none⟩) len0 len0) len0 (rows L)) := hcx.ownsRow HOL10.out (fun _ _ h => h)
              have HOZx : Hid (wx.ownsRow gs 3 1 (.slice (some ⟨gs, 0, none⟩) len0 len0) len0 (ints Z)) := hcx.ownsRow HOZ10.out (fun _ _ h => h)
              have HSTx : Hid (St w p q r0 r1 r2 wx) := HST10.out.kept hcx (fun _ h => h.elim)
              have HONEx : Hid (∀ j, j < 6 → j ≠ fc → OneBox wx (A j) j) := fun j hj hjf => (HONE10.out j hj hjf).kept hcx (fun _ _ h => h)
              have hBx : sb + 1 ≤ wx.heap.size := by have := lt_of_block hspx; omega
              clear hsp10 hfi HOA10 HOL10 HOZ10 HST10 HONE10 hcx
              have c0 : wx.cell? ⟨pb, 0, none⟩ = some (.int .i64 p.l0) := by rw [cell_of_row _ _ _ _ _ _ hpb]; rfl
              have c1 : wx.cell? ⟨pb, 1, none⟩ = some (.int .i64 p.l1) := by rw [cell_of_row _ _ _ _ _ _ hpb]; rfl
              have c2 : wx.cell? ⟨pb, 2, none⟩ = some (.int .i64 p.l2) := by rw [cell_of_row _ _ _ _ _ _ hpb]; rfl
              have c3 : wx.cell? ⟨pb, 3, none⟩ = some (.int .i64 p.h0) := by rw [cell_of_row _ _ _ _ _ _ hpb]; rfl
              have c4 : wx.cell? ⟨pb, 4, none⟩ = some (.int .i64 p.h1) := by rw [cell_of_row _ _ _ _ _ _ hpb]; rfl
              have c5 : wx.cell? ⟨pb, 5, none⟩ = some (.int .i64 p.h2) := by rw [cell_of_row _ _ _ _ _ _ hpb]; rfl
              have d0 : wx.cell? ⟨qb, 0, none⟩ = some (.int .i64 q.l0) := by rw [cell_of_row _ _ _ _ _ _ hqb]; rfl
              have d1 : wx.cell? ⟨qb, 1, none⟩ = some (.int .i64 q.l1) := by rw [cell_of_row _ _ _ _ _ _ hqb]; rfl
              have d2 : wx.cell? ⟨qb, 2, none⟩ = some (.int .i64 q.l2) := by rw [cell_of_row _ _ _ _ _ _ hqb]; rfl
              have d3 : wx.cell? ⟨qb, 3, none⟩ = some (.int .i64 q.h0) := by rw [cell_of_row _ _ _ _ _ _ hqb]; rfl
              have d4 : wx.cell? ⟨qb, 4, none⟩ = some (.int .i64 q.h1) := by rw [cell_of_row _ _ _ _ _ _ hqb]; rfl
              have d5 : wx.cell? ⟨qb, 5, none⟩ = some (.int .i64 q.h2) := by rw [cell_of_row _ _ _ _ _ _ hqb]; rfl
              go_wp2_with fail
              refine Calls.mono (add_walk fc sb (sb + 1) L A r0 r1 r2 ko turn p q hp hq wx hfc (by omega) (by omega) hBx hspx (by rw [hLl]; exact hoAx)) ?_
              rintro e wa ⟨rfl, v, M, hspa, hoM, hMl, hM0, hM1, hca⟩
              have hAt : ∀ k, (A fc).ownBlock = some k → sb + 1 ≤ k ∧ ∃ cur, wx.heap[k]? = some (.cells cur 35 (0, 0)) := fun k hk => ⟨(hoAx.lt k hk).1, ownsRow_block hoAx hk⟩
              have hfia := hca.at hfix (fun h => by
                rcases h with h | h
                · omega
                · obtain ⟨_, cur, hcur⟩ := hAt _ h; rw [hfix] at hcur; cases hcur)
              have hpba := hca.at hpb (fun h => by
                rcases h with h | h
                · rw [h] at hpb; rw [hspx] at hpb; cases hpb
                · obtain ⟨_, cur, hcur⟩ := hAt _ h; rw [hpb] at hcur; cases hcur)
              have hqba := hca.at hqb (fun h => by
                rcases h with h | h
                · rw [h] at hqb; rw [hspx] at hqb; cases hqb
                · obtain ⟨_, cur, hcur⟩ := hAt _ h; rw [hqb] at hcur; cases hcur)
              have HOLa : Hid (wa.ownsRow go 35 7 (.slice (some ⟨go, 0, none⟩) len0 len0) len0 (rows L)) := hca.ownsRow HOLx.out (fun k hk h => by
                simp [Value.ownBlock] at hk
                rcases h with h | h
                · omega
                · have := (hAt _ h).1; omega)
              have HOZa : Hid (wa.ownsRow gs 3 1 (.slice (some ⟨gs, 0, none⟩) len0 len0) len0 (ints Z)) := hca.ownsRow HOZx.out (fun k hk h => by
                simp [Value.ownBlock] at hk
                rcases h with h | h
                · omega
                · have := (hAt _ h).1; omega)
              have HSTa : Hid (St w p q r0 r1 r2 wa) := HSTx.out.kept hca (fun i h => by
                rcases h with h | h
                · omega
                · have := (hAt _ h).1; omega)
              have honea : ∀ j, j < 6 → j ≠ fc → OneBox wa (upd A fc v j) j := fun j hj hjf => by
                rw [show upd A fc v j = A j by simp [upd, hjf]]
                obtain ⟨g, eg, hg⟩ := HONEx.out j hj hjf
                refine ⟨g, eg, hca.at hg (fun h => ?_)⟩
                rcases h with h | h
                · rw [h] at hg; rw [hspx] at hg; cases hg
                · exact HDIS.out j hj hjf g h eg
              have hoth : ∀ N, Calls Yba.prog 10 #[.pointer (some ⟨sb, 0, none⟩), .int .i64 fc] (wa.drewN N) fun e w' => e = .returned (.bool true) ∧ w' = wa.drewN N := fun N =>
                others_walk fc sb (upd A fc v) r0 r1 r2 turn ko (wa.drewN N) ((Chg.drewN (fun _ => False) wa N).at hspa (fun h => h)) (fun j hj hjf => (honea j hj hjf).kept (Chg.drewN (fun _ => False) wa N) (fun _ _ h => h))
              have hneq : ∀ N, (binOp .neq 31 (.agg #[.int .i64 r0, .int .i64 r1, .int .i64 r2]) (.agg #[.int .i64 r0, .int .i64 r1, .int .i64 r2])).run Yba.prog (wa.drewN N) = .ok (.bool false) (wa.drewN N) := fun N => neq3_same r0 r1 r2 _
              have hneq2 : ∀ N, (Op.equalIn 10000 31 (.agg #[.int .i64 r0, .int .i64 r1, .int .i64 r2]) (.agg #[.int .i64 r0, .int .i64 r1, .int .i64 r2])).run Yba.prog (wa.drewN N) = .ok true (wa.drewN N) := fun N => arr_refl 9998 r0 r1 r2 _
              clear c0 c1 c2 c3 c4 c5 d0 d1 d2 d3 d4 d5
              have s0 : wa.cell? ⟨sb, 14, none⟩ = some (.int .i64 r0) := by rw [cell_of_row _ _ _ _ _ _ hspa]; rfl
              have s1 : wa.cell? ⟨sb, 15, none⟩ = some (.int .i64 r1) := by rw [cell_of_row _ _ _ _ _ _ hspa]; rfl
              have s2 : wa.cell? ⟨sb, 16, none⟩ = some (.int .i64 r2) := by rw [cell_of_row _ _ _ _ _ _ hspa]; rfl
              have s3 : wa.cell? ⟨sb, 17, none⟩ = some (.bool turn) := by rw [cell_of_row _ _ _ _ _ _ hspa]; rfl
              have s4 : wa.cell? ⟨sb, 18, none⟩ = some (.bool ko) := by rw [cell_of_row _ _ _ _ _ _ hspa]; rfl
              have f0 : wa.cell? ⟨fb, 0, none⟩ = some (.int .i64 r0) := by rw [cell_of_row _ _ _ _ _ _ hfia]; rfl
              have f1 : wa.cell? ⟨fb, 1, none⟩ = some (.int .i64 r1) := by rw [cell_of_row _ _ _ _ _ _ hfia]; rfl
              have f2 : wa.cell? ⟨fb, 2, none⟩ = some (.int .i64 r2) := by rw [cell_of_row _ _ _ _ _ _ hfia]; rfl
              go_wp2_with fail
              go_quiet ((go_at_call 10; exact Calls.quiet_of_same (hoth _)))
              have hcb := Chg.drewN (fun _ => False) wa nq
              clear s0 s1 s2 s3 s4 f0 f1 f2 hoth hneq hneq2 honea HONEx hoAx HSTx HOLx HOZx hca
              generalize wa.drewN nq = wb at *
              have hspb := hcb.at hspa (fun h => h)
              have hfib := hcb.at hfia (fun h => h)
              have hpbb := hcb.at hpba (fun h => h)
              have hqbb := hcb.at hqba (fun h => h)
              have hoMb := hcb.ownsRow hoM (fun _ _ h => h)
              have hstb := HSTa.out.kept hcb (fun _ h => h.elim)
              have holb := hcb.ownsRow HOLa.out (fun _ _ h => h)
              have hozb := hcb.ownsRow HOZa.out (fun _ _ h => h)
              clear hspa hfia hpba hqba hoM HSTa HOLa HOZa hcb hspx hfix hpb hqb
              have c0 : wb.cell? ⟨pb, 0, none⟩ = some (.int .i64 p.l0) := by rw [cell_of_row _ _ _ _ _ _ hpbb]; rfl
              have c1 : wb.cell? ⟨pb, 1, none⟩ = some (.int .i64 p.l1) := by rw [cell_of_row _ _ _ _ _ _ hpbb]; rfl
              have c2 : wb.cell? ⟨pb, 2, none⟩ = some (.int .i64 p.l2) := by rw [cell_of_row _ _ _ _ _ _ hpbb]; rfl
              have c3 : wb.cell? ⟨pb, 3, none⟩ = some (.int .i64 p.h0) := by rw [cell_of_row _ _ _ _ _ _ hpbb]; rfl
              have c4 : wb.cell? ⟨pb, 4, none⟩ = some (.int .i64 p.h1) := by rw [cell_of_row _ _ _ _ _ _ hpbb]; rfl
              have c5 : wb.cell? ⟨pb, 5, none⟩ = some (.int .i64 p.h2) := by rw [cell_of_row _ _ _ _ _ _ hpbb]; rfl
              have d0 : wb.cell? ⟨qb, 0, none⟩ = some (.int .i64 q.l0) := by rw [cell_of_row _ _ _ _ _ _ hqbb]; rfl
              have d1 : wb.cell? ⟨qb, 1, none⟩ = some (.int .i64 q.l1) := by rw [cell_of_row _ _ _ _ _ _ hqbb]; rfl
              have d2 : wb.cell? ⟨qb, 2, none⟩ = some (.int .i64 q.l2) := by rw [cell_of_row _ _ _ _ _ _ hqbb]; rfl
              have d3 : wb.cell? ⟨qb, 3, none⟩ = some (.int .i64 q.h0) := by rw [cell_of_row _ _ _ _ _ _ hqbb]; rfl
              have d4 : wb.cell? ⟨qb, 4, none⟩ = some (.int .i64 q.h1) := by rw [cell_of_row _ _ _ _ _ _ hqbb]; rfl
              have d5 : wb.cell? ⟨qb, 5, none⟩ = some (.int .i64 q.h2) := by rw [cell_of_row _ _ _ _ _ _ hqbb]; rfl
              have f0 : wb.cell? ⟨fb, 0, none⟩ = some (.int .i64 r0) := by rw [cell_of_row _ _ _ _ _ _ hfib]; rfl
              have f1 : wb.cell? ⟨fb, 1, none⟩ = some (.int .i64 r1) := by rw [cell_of_row _ _ _ _ _ _ hfib]; rfl
              have f2 : wb.cell? ⟨fb, 2, none⟩ = some (.int .i64 r2) := by rw [cell_of_row _ _ _ _ _ _ hfib]; rfl
              go_wp2_with fail
              refine Calls.mono (cond_walk p q hp hq r0 r1 r2 ko turn wb) ?_
              rintro e wc ⟨rfl, hcc⟩
              have hspc := hcc.at hspb (fun h => h)
              have hpbc := hcc.at hpbb (fun h => h)
              have hoMc := hcc.ownsRow hoMb (fun _ _ h => h)
              have hstc := hstb.kept hcc (fun _ h => h.elim)
              have holc := hcc.ownsRow holb (fun _ _ h => h)
              have hozc := hcc.ownsRow hozb (fun _ _ h => h)
              obtain ⟨va, vc, rfl⟩ := len_of hoMc
              have ct : wc.cell? ⟨sb, 8 + fc, none⟩ = some (.slice va M.length vc) := by rw [sp_cell hspc fc hfc]; simp [upd]
              have hfi : (fc : Int) < 6 := by omega
              clear c0 c1 c2 c3 c4 c5 d0 d1 d2 d3 d4 d5 f0 f1 f2 hspb hfib hpbb hqbb hoMb hstb holb hozb hcc
              cases hcd : cond p q r0 r1 r2 ko turn
              · obtain rfl := hM0 hcd
                clear hM0 hM1
                have heq := equal_walk va (some ⟨go, 0, none⟩) len0 vc len0 (fun i => M.getD i z7) wc (by omega) (szs_of (by rw [← hLl]; exact hoMc) hLl) (szs_of holc hLl)
                rw [hLl] at ct
                go_wp2_with fail
                refine Calls.mono heq ?_
                rintro e wd ⟨rfl, N, rfl⟩
                go_wp2
                go_ret
                exact ⟨rfl, (hstc.kept (Chg.drewN (fun _ => False) wc N) (fun _ h => h.elim)).ch⟩
              · obtain ⟨c, hcl', rfl, h1, h2⟩ := hM1 hcd
                clear hM0 hM1
                have hcnt : cnt Z (vol p) = c := by
                  refine cnt_eq HZS.out (by omega) (fun i x hi hx => ?_) (fun i x hi hx => ?_)
                  · obtain ⟨s, hs⟩ : ∃ s, L[i]? = some s := ⟨L[i], List.getElem?_eq_getElem (by omega)⟩
                    have := HLZ.out i s (by omega) hs
                    rw [hx] at this
                    have := h1 i s hi hs
                    simp_all
                  · have hil : i < L.length := by have : i < Z.length := (List.getElem?_eq_some_iff.1 hx).1; omega
                    obtain ⟨s, hs⟩ : ∃ s, L[i]? = some s := ⟨L[i], List.getElem?_eq_getElem hil⟩
                    have := HLZ.out i s (by have := (List.getElem?_eq_some_iff.1 hs).1; omega) hs
                    rw [hx] at this
                    have := h2 i s hi hs
                    simp_all
                have HCNT : Hid (cnt Z (vol p) = c) := hcnt
                clear hcnt h1 h2
                go_wp2_with fail
                have HSPc : Hid (wc.heap[sb]? = some (spRow (upd A fc (.slice va (L.take c ++ ⟨p, vol p⟩ :: L.drop c).length vc)) r0 r1 r2 turn ko)) := hspc
                have HOMc : Hid (wc.ownsRow (sb + 1) 35 7 (.slice va (L.take c ++ ⟨p, vol p⟩ :: L.drop c).length vc) (L.take c ++ ⟨p, vol p⟩ :: L.drop c).length (rows (L.take c ++ ⟨p, vol p⟩ :: L.drop c))) := hoMc
                clear hspc hoMc ct hMl
                go_cut [25] from 153 to 156 (fun s25 wx => ∃ qb, s25 = .pointer (some ⟨qb, 0, none⟩) ∧ wx.heap[qb]? = some (.cells (cells7 ⟨p, vol p⟩) 35 (0, 0)) ∧ wc.heap.size ≤ qb ∧ Chg (fun _ => False) wc wx)
                case first =>
                  refine region_inv_at (fun a0 b a' w' => ∃ v25 v153 v154 v155 v156, a' = ((((a0.put (some 153) v153).put (some 154) v154).put (some 155) v155).put (some 156) v156).put (some 25) v25 ∧ I29 wc p b v25 v153 v154 v155 v156 w') (by kernel_rfl) (by kernel_rfl) ⟨undef, undef, undef, undef, undef, rfl, I29.first wc p⟩ ?_ ?_
                  · refine And.intro ?_ (And.intro ?_ (And.intro ?_ (And.intro ?_ (And.intro ?_ (And.intro ?_ trivial)))))
                    · rintro b a' w' ⟨v25, v153, v154, v155, v156, rfl, hI⟩ hk hdep
                      have hrow := hI.ch.at hpbc (fun h => h)
                      have c0 : w'.cell? ⟨pb, 0, none⟩ = some (.int .i64 p.l0) := by rw [cell_of_row _ _ _ _ _ _ hrow]; rfl
                      have c1 : w'.cell? ⟨pb, 1, none⟩ = some (.int .i64 p.l1) := by rw [cell_of_row _ _ _ _ _ _ hrow]; rfl
                      have c2 : w'.cell? ⟨pb, 2, none⟩ = some (.int .i64 p.l2) := by rw [cell_of_row _ _ _ _ _ _ hrow]; rfl
                      have c3 : w'.cell? ⟨pb, 3, none⟩ = some (.int .i64 p.h0) := by rw [cell_of_row _ _ _ _ _ _ hrow]; rfl
                      have c4 : w'.cell? ⟨pb, 4, none⟩ = some (.int .i64 p.h1) := by rw [cell_of_row _ _ _ _ _ _ hrow]; rfl
                      have c5 : w'.cell? ⟨pb, 5, none⟩ = some (.int .i64 p.h2) := by rw [cell_of_row _ _ _ _ _ _ hrow]; rfl
                      go_wp2_with fail
                      exact ⟨_, _, _, _, _, ⟨rfl, rfl, rfl, rfl, rfl⟩, hI.s0⟩
                    · rintro b a' w' ⟨v25, v153, v154, v155, v156, rfl, hI⟩ hk hdep
                      have hrow := hI.ch.at hpbc (fun h => h)
                      have c0 : w'.cell? ⟨pb, 0, none⟩ = some (.int .i64 p.l0) := by rw [cell_of_row _ _ _ _ _ _ hrow]; rfl
                      have c1 : w'.cell? ⟨pb, 1, none⟩ = some (.int .i64 p.l1) := by rw [cell_of_row _ _ _ _ _ _ hrow]; rfl
                      have c2 : w'.cell? ⟨pb, 2, none⟩ = some (.int .i64 p.l2) := by rw [cell_of_row _ _ _ _ _ _ hrow]; rfl
                      have c3 : w'.cell? ⟨pb, 3, none⟩ = some (.int .i64 p.h0) := by rw [cell_of_row _ _ _ _ _ _ hrow]; rfl
                      have c4 : w'.cell? ⟨pb, 4, none⟩ = some (.int .i64 p.h1) := by rw [cell_of_row _ _ _ _ _ _ hrow]; rfl
                      have c5 : w'.cell? ⟨pb, 5, none⟩ = some (.int .i64 p.h2) := by rw [cell_of_row _ _ _ _ _ _ hrow]; rfl
                      go_wp2_with fail
                      exact ⟨_, _, _, _, _, ⟨rfl, rfl, rfl, rfl, rfl⟩, hI.s1⟩
                    · rintro b a' w' ⟨v25, v153, v154, v155, v156, rfl, hI⟩ hk hdep
                      obtain rfl := hI.b1 (hdep { on := 1, ground := Ground.data } (by simp) rfl)
                      go_wp2_with fail
                      refine Calls.mono (anodes_walk p hp _) ?_
                      rintro e w2 ⟨rfl, hc2⟩
                      go_wp2_with fail
                      refine ⟨v25, v153, .agg (cells6 p), .int .i64 (vol p), v156, rfl, ?_⟩
                      simp only [Bool.if_true_left]
                      exact hI.s2 hc2
                    · rintro b a' w' ⟨v25, v153, v154, v155, v156, rfl, hI⟩ hk hdep
                      obtain rfl := hI.b0 (hdep { on := 0, ground := Ground.data } (by simp) rfl)
                      obtain rfl := hI.b2 (hdep { on := 2, ground := Ground.data } (by simp) rfl)
                      go_wp2_with fail
                      exact ⟨_, _, _, _, _, ⟨rfl, rfl, rfl, rfl, rfl⟩, hI.s3⟩
                    · rintro b a' w' ⟨v25, v153, v154, v155, v156, rfl, hI⟩ hk hdep
                      go_wp2_with fail
                      exact ⟨_, _, _, _, _, ⟨rfl, rfl, rfl, rfl, rfl⟩, hI.s4 hk _ _ _ _ _ _ _⟩
                    · rintro b a' w' ⟨v25, v153, v154, v155, v156, rfl, hI⟩ hk hdep
                      have hba := hdep { on := 4, ground := Ground.data } (by simp) rfl
                      obtain rfl := hI.b3 (hdep { on := 3, ground := Ground.data } (by simp) rfl)
                      obtain ⟨qc, x0, x1, x2, x3, x4, x5, x6, rfl, hpl, hrow, _⟩ := hI.b4 hba
                      have c0 : w'.cell? ⟨qc, 0, none⟩ = some x0 := by rw [cell_of_row _ _ _ _ _ _ hrow]; rfl
                      have c1 : w'.cell? ⟨qc, 1, none⟩ = some x1 := by rw [cell_of_row _ _ _ _ _ _ hrow]; rfl
                      have c2 : w'.cell? ⟨qc, 2, none⟩ = some x2 := by rw [cell_of_row _ _ _ _ _ _ hrow]; rfl
                      have c3 : w'.cell? ⟨qc, 3, none⟩ = some x3 := by rw [cell_of_row _ _ _ _ _ _ hrow]; rfl
                      have c4 : w'.cell? ⟨qc, 4, none⟩ = some x4 := by rw [cell_of_row _ _ _ _ _ _ hrow]; rfl
                      have c5 : w'.cell? ⟨qc, 5, none⟩ = some x5 := by rw [cell_of_row _ _ _ _ _ _ hrow]; rfl
                      have c6 : w'.cell? ⟨qc, 6, none⟩ = some x6 := by rw [cell_of_row _ _ _ _ _ _ hrow]; rfl
                      have fg : ∀ o, w'.frozen? ⟨qc, o, none⟩ = false := fun o => frozen_of_row _ qc o _ _ hrow
                      go_wp2_with fail
                      refine ⟨_, _, _, _, _, ⟨rfl, rfl, rfl, rfl, rfl⟩, ?_⟩
                      generalize hW : World.setCell _ _ _ = W
                      obtain ⟨h7, c7⟩ := put7_head hrow _ _ _ _ _ _ _ hW
                      exact hI.s5 hba c7 h7
                  · rintro b a' w' ⟨v25, v153, v154, v155, v156, rfl, hI⟩ hall
                    obtain ⟨qc, x0, x1, x2, x3, x4, x5, x6, rfl, hpl, hqrow, hq5⟩ := hI.b4 (hall 4 (by decide))
                    rw [hq5 (hall 5 (by decide))] at hqrow
                    go_wp2_with fail
                    go_meet
                    exact ⟨qc, rfl, hqrow, hpl, hI.ch⟩
                case rest =>
                  obtain ⟨qc, rfl, hqc, hqcl, hcd⟩ := hcut
                  rename World => wd
                  have hspd := hcd.at HSPc.out (fun h => h)
                  have hoMd := hcd.ownsRow HOMc.out (fun _ _ h => h)
                  have hstd := hstc.kept hcd (fun _ h => h.elim)
                  have hold := hcd.ownsRow holc (fun _ _ h => h)
                  have hozd := hcd.ownsRow hozc (fun _ _ h => h)
                  have HSPd : Hid (wd.heap[sb]? = some (spRow (upd A fc (.slice va (L.take c ++ ⟨p, vol p⟩ :: L.drop c).length vc)) r0 r1 r2 turn ko)) := hspd
                  have HOMd : Hid (wd.ownsRow (sb + 1) 35 7 (.slice va (L.take c ++ ⟨p, vol p⟩ :: L.drop c).length vc) (L.take c ++ ⟨p, vol p⟩ :: L.drop c).length (rows (L.take c ++ ⟨p, vol p⟩ :: L.drop c))) := hoMd
                  have cq : wd.cell? ⟨qc, 6, none⟩ = some (.int .i64 (vol p)) := by rw [cell_of_row _ _ _ _ _ _ hqc]; rfl
                  clear hspd hoMd HSPc HOMc hstc holc hozc hcd hpbc
                  go_wp2_with fail
                  go_loopg [26, 159] len0 (fun gk s26 i wr => ∃ t : Nat, gk + t = len0 ∧ s26 = .int .i64 (cnt (Z.take t) (vol p) : Nat) ∧ i = .int .i64 t ∧ wr = wd)
                  case atStart => exact ⟨0, rfl, rfl, rfl, rfl⟩
                  case round =>
                    obtain ⟨t, hgt, rfl, rfl, rfl⟩ := hrel
                    have hcb : cnt (Z.take t) (vol p) ≤ 1024 := Nat.le_trans (cnt_le _ _) (by simp; omega)
                    by_cases hlt : t < len0
                    · obtain ⟨y, hy⟩ : ∃ y, Z[t]? = some y := ⟨Z[t], List.getElem?_eq_getElem (by omega)⟩
                      have cz := ownsRow_cell hozd (ints_at hy)
                      have hstep := cnt_step (v := vol p) hy
                      generalize cnt (Z.take t) (vol p) = cn at *
                      by_cases hge : vol p ≤ y
                      · rw [if_pos hge] at hstep
                        go_wp2
                        go_roundg (len0 - (t + 1))
                        case measure => omega
                        case rel => exact ⟨t + 1, by omega, by rw [hstep]; go_num, by go_num, rfl⟩
                      · rw [if_neg hge] at hstep
                        go_wp2
                        go_roundg (len0 - (t + 1))
                        case measure => omega
                        case rel => exact ⟨t + 1, by omega, by rw [hstep]; go_num, by go_num, rfl⟩
                    · obtain rfl : len0 = t := by omega
                      rw [List.take_of_length_le (by omega), HCNT.out]
                      obtain ⟨i0, hi, hz0, hz1, hz2⟩ := info_cut info35
                      obtain ⟨we, hmk0, hoe, hge⟩ := run_make_own (P := Yba.prog) wr wr.heap.size 30 35 i0 (.agg #[.int .i64 0, .int .i64 0, .int .i64 0, .int .i64 0, .int .i64 0, .int .i64 0, .int .i64 0]) 7 Yba.underlying30 hi hz0 hz1 .i64 .i64 (len0 + 1) (by rw [hz2]; omega) (by unfold maxLen; omega) (Nat.le_refl _)
                      have hmk : (Instr.makeSlice 30 (.int .i64 0) (.int .i64 ((len0 : Int) + 1))).run Yba.prog wr = .ok (.slice (some ⟨wr.heap.size, 0, none⟩) 0 (len0 + 1)) we := by rw [show ((len0 : Int) + 1) = ((len0 + 1 : Nat) : Int) by omega]; exact hmk0
                      have hce : Chg (fun _ => False) wr we := Chg.grown hge (fun k hk => by cases hk)
                      have hole := hce.ownsRow hold (fun _ _ h => h)
                      have hcl : ∀ j u, (rows (L.take c))[j]? = some u → we.cell? ((⟨go, 0, none⟩ : Addr).add j) = some u := by
                        intro j u hj
                        have e : (⟨go, 0, none⟩ : Addr).add j = ⟨go, j, none⟩ := by unfold Addr.add; split <;> simp_all
                        rw [e]
                        refine ownsRow_cell hole ?_
                        rw [← List.take_append_drop c L, rows_append, List.getElem?_append_left (List.getElem?_eq_some_iff.1 hj).1]
                        exact hj
                      have hrl : (rows (L.take c)).length = c * 7 := by rw [rows_len, List.length_take, Nat.min_eq_left hcl']
                      have hic : (c : Int) ≤ len0 := by omega
                      have hwe : wr.heap.size ≤ we.heap.size := hce.size
                      clear hmk0 hge
                      go_upto_region 39 with (at_builtin; refine wpList_append_own_at _ rfl (.tmp 174) (.tmp 177) 30 rfl wr.heap.size 35 i0 _ 7 56 Yba.underlying30 hi hz0 hz1 hz2 rfl (by decide) (.slice (some ⟨wr.heap.size, 0, none⟩) 0 (len0 + 1)) 0 [] rfl hoe ⟨go, 0, none⟩ c len0 (rows (L.take c)) rfl hrl hcl (rows_one _) (by unfold maxLen; omega) (by omega) (by omega) ?_; intro v1 w1 k1 k2 k3 k4)
                      rw [Nat.zero_add, List.nil_append] at k1
                      have hc1 : Chg (fun _ => False) wr w1 := hce.then (Chg.grown (S := fun i => i = wr.heap.size) k2 (fun k hk => by simpa [Value.ownBlock] using hk.symm)) (fun i hi => Or.inr (by omega))
                      obtain ⟨va1, vc1, rfl⟩ := len_of k1
                      have hq1 := hc1.at hqc (fun h => h)
                      have hwr1 : wr.heap.size ≤ w1.heap.size := hc1.size
                      have e0 : w1.cell? ⟨qc, 0, none⟩ = some (.int .i64 p.l0) := by rw [cell_of_row _ _ _ _ _ _ hq1]; rfl
                      have e1 : w1.cell? ⟨qc, 1, none⟩ = some (.int .i64 p.l1) := by rw [cell_of_row _ _ _ _ _ _ hq1]; rfl
                      have e2 : w1.cell? ⟨qc, 2, none⟩ = some (.int .i64 p.l2) := by rw [cell_of_row _ _ _ _ _ _ hq1]; rfl
                      have e3 : w1.cell? ⟨qc, 3, none⟩ = some (.int .i64 p.h0) := by rw [cell_of_row _ _ _ _ _ _ hq1]; rfl
                      have e4 : w1.cell? ⟨qc, 4, none⟩ = some (.int .i64 p.h1) := by rw [cell_of_row _ _ _ _ _ _ hq1]; rfl
                      have e5 : w1.cell? ⟨qc, 5, none⟩ = some (.int .i64 p.h2) := by rw [cell_of_row _ _ _ _ _ _ hq1]; rfl
                      have e6 : w1.cell? ⟨qc, 6, none⟩ = some (.int .i64 (vol p)) := by rw [cell_of_row _ _ _ _ _ _ hq1]; rfl
                      clear k2 k3 k4 hce hole hcl hrl hoe hmk hwe
                      go_upto_region 40 with (at_builtin; refine wpList_append_new rfl (.tmp 179) (.tmp 181) 30 rfl wr.heap.size 35 _ 7 56 info35 rfl (by decide) Yba.underlying30 (.slice va1 c vc1) c (rows (L.take c)) rfl (k1.alloc _) w1.heap.size 1 (row7 ⟨p, vol p⟩) rfl rfl (heap_alloc_new w1 _) (by simp [Value.oneCell']) (by omega) (by omega) (by simp; omega) ?_; intro g2 cap2 w2 m1 m2 m3)
                      have hc2 : Chg (fun _ => False) wr w2 := (hc1.trans (Chg.alloc (fun _ => False) w1 _)).then m2 (fun i hi => Or.inr (k1.lt i hi).1)
                      clear e0 e1 e2 e3 e4 e5 e6 m2 m3
                      by_cases hlast : c = len0
                      · subst hlast
                        have hwe2 : wr.heap.size ≤ w2.heap.size := hc2.size
                        have hdr : L.drop c = [] := List.drop_of_length_le (by omega)
                        go_upto_region 41 with (at_builtin; refine wpList_append_own_at _ rfl (.tmp 183) (.tmp 186) 30 rfl wr.heap.size 35 i0 _ 7 56 Yba.underlying30 hi hz0 hz1 hz2 rfl (by decide) (.slice (some ⟨g2, 0, none⟩) (c + 1) cap2) (c + 1) _ rfl m1 ⟨go, 0, none⟩ 0 0 [] rfl rfl (fun j u h => by simp at h) (fun u h => by cases h) (by unfold maxLen; omega) (by omega) (by omega) ?_; intro v3 w5 n1 n2 n3 n4)
                        have hMl : (L.take c ++ ⟨p, vol p⟩ :: L.drop c).length = c + 1 := by rw [hole_len L c _ hcl']; omega
                        have n1' : w5.ownsRow wr.heap.size 35 7 v3 (c + 1) (rows (L.take c ++ ⟨p, vol p⟩ :: L.drop c)) := by
                          have e1 : rows (L.take c ++ ⟨p, vol p⟩ :: L.drop c) = rows (L.take c) ++ row7 ⟨p, vol p⟩ ++ rows (L.drop c) := by rw [rows_append, List.append_assoc]; rfl
                          rw [e1]
                          rw [hdr]
                          exact n1
                        have hc3 : Chg (fun _ => False) wr w5 := hc2.then (Chg.grown (S := fun i => i = g2) n2 (fun k hk => by simpa [Value.ownBlock] using hk.symm)) (fun i hi => Or.inr (by have := (m1.lt g2 rfl).1; omega))
                        have hspw := hc3.at HSPd.out (fun h => h)
                        have hoMw := hc3.ownsRow HOMd.out (fun _ _ h => h)
                        have ct : w5.cell? ⟨sb, 8 + fc, none⟩ = some (.slice va (L.take c ++ ⟨p, vol p⟩ :: L.drop c).length vc) := by rw [sp_cell hspw fc hfc]; simp [upd]
                        rw [hMl] at ct hoMw
                        obtain ⟨va3, vc3, rfl⟩ := len_of n1'
                        have heq := equal_walk va va3 (c + 1) vc vc3 (fun i => (L.take c ++ ⟨p, vol p⟩ :: L.drop c).getD i z7) w5 (by omega) (szs_of hoMw hMl) (szs_of n1' hMl)
                        clear n1 n2 n3 n4
                        go_wp2_with fail
                        refine Calls.mono heq ?_
                        rintro e wg ⟨rfl, N, rfl⟩
                        go_wp2
                        go_ret
                        exact ⟨rfl, ((hstd.kept hc3 (fun _ h => h.elim)).kept (Chg.drewN (fun _ => False) w5 N) (fun _ h => h.elim)).ch⟩
                      · skip
                        have hwe2 : wr.heap.size ≤ w2.heap.size := hc2.size
                        have hltc : c < len0 := by omega
                        have hol2 := hc2.ownsRow hold (fun _ _ h => h)
                        have hrl : (rows (L.drop c)).length = (len0 - c) * 7 := by rw [rows_len, List.length_drop, hLl]
                        have hcl : ∀ j u, (rows (L.drop c))[j]? = some u → w2.cell? ((⟨go, c * 7, none⟩ : Addr).add j) = some u := by
                          intro j u hj
                          have e : (⟨go, c * 7, none⟩ : Addr).add j = ⟨go, c * 7 + j, none⟩ := by unfold Addr.add; split <;> simp_all
                          rw [e]
                          refine ownsRow_cell hol2 ?_
                          rw [← List.take_append_drop c L, rows_append, List.getElem?_append_right (by rw [rows_len, List.length_take, Nat.min_eq_left hcl']; omega), rows_len, List.length_take, Nat.min_eq_left hcl', Nat.add_sub_cancel_left]
                          exact hj
                        go_upto_region 41 with (at_builtin; refine wpList_append_own_at _ rfl (.tmp 183) (.tmp 186) 30 rfl wr.heap.size 35 i0 _ 7 56 Yba.underlying30 hi hz0 hz1 hz2 rfl (by decide) (.slice (some ⟨g2, 0, none⟩) (c + 1) cap2) (c + 1) _ rfl m1 ⟨go, c * 7, none⟩ (len0 - c) (len0 - c) (rows (L.drop c)) rfl hrl hcl (rows_one _) (by unfold maxLen; omega) (by omega) (by omega) ?_; intro v3 w5 n1 n2 n3 n4)
                        have hMl : (L.take c ++ ⟨p, vol p⟩ :: L.drop c).length = len0 + 1 := by rw [hole_len L c _ hcl']; omega
                        have n1' : w5.ownsRow wr.heap.size 35 7 v3 (len0 + 1) (rows (L.take c ++ ⟨p, vol p⟩ :: L.drop c)) := by
                          have e1 : rows (L.take c ++ ⟨p, vol p⟩ :: L.drop c) = rows (L.take c) ++ row7 ⟨p, vol p⟩ ++ rows (L.drop c) := by rw [rows_append, List.append_assoc]; rfl
                          rw [e1]
                          rw [show c + 1 + (len0 - c) = len0 + 1 by omega] at n1
                          exact n1
                        have hc3 : Chg (fun _ => False) wr w5 := hc2.then (Chg.grown (S := fun i => i = g2) n2 (fun k hk => by simpa [Value.ownBlock] using hk.symm)) (fun i hi => Or.inr (by have := (m1.lt g2 rfl).1; omega))
                        have hspw := hc3.at HSPd.out (fun h => h)
                        have hoMw := hc3.ownsRow HOMd.out (fun _ _ h => h)
                        have ct : w5.cell? ⟨sb, 8 + fc, none⟩ = some (.slice va (L.take c ++ ⟨p, vol p⟩ :: L.drop c).length vc) := by rw [sp_cell hspw fc hfc]; simp [upd]
                        rw [hMl] at ct hoMw
                        obtain ⟨va3, vc3, rfl⟩ := len_of n1'
                        have heq := equal_walk va va3 (len0 + 1) vc vc3 (fun i => (L.take c ++ ⟨p, vol p⟩ :: L.drop c).getD i z7) w5 (by omega) (szs_of hoMw hMl) (szs_of n1' hMl)
                        clear n1 n2 n3 n4
                        go_wp2_with fail
                        refine Calls.mono heq ?_
                        rintro e wg ⟨rfl, N, rfl⟩
                        go_wp2
                        go_ret
                        exact ⟨rfl, ((hstd.kept hc3 (fun _ h => h.elim)).kept (Chg.drewN (fun _ => False) w5 N) (fun _ h => h.elim)).ch⟩
  · go_enter Yba.func3, Yba.ntmps3
    go_wp2
    go_ret
    exact ⟨rfl, (St.first w p q r0 r1 r2).ch⟩
end Go.Proofs.Ybulkamqs
