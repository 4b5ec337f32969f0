/-
  OUR OWN. b1922a: LawS1922CHoles (3), walked.
-/
import Derived.Test.YbulkamtyLaw0
import Derived.Test.YbulkamtyNew
namespace Go.Proofs.Ybulkamty
open Go.RowKit
set_option linter.unusedVariables false
set_option linter.unusedSimpArgs false
theorem w8_eq (f g : Nat → Int) (h : ∀ i, i < 8 → f i = g i) : w8 f = w8 g := by
  unfold w8
  rw [h 0 (by omega), h 1 (by omega), h 2 (by omega), h 3 (by omega), h 4 (by omega), h 5 (by omega), h 6 (by omega), h 7 (by omega)]
theorem Chg.four (w : World) (A B C D : Obj) : Chg (fun _ => False) w ((((w.alloc A).alloc B).alloc C).alloc D) :=
  (((Chg.alloc _ _ _).trans (Chg.alloc _ _ _)).trans (Chg.alloc _ _ _)).trans (Chg.alloc _ _ _)
theorem text_at {w : World} {B g cap : Nat} {T : List Int} (ho : w.ownsRow B 5 1 (.slice (some ⟨g, 0, none⟩) T.length cap) T.length (bytes T)) (hT : ∀ x ∈ T, 0 ≤ x ∧ x ≤ 255) (a : Nat) (ha : a + 8 ≤ T.length) :
    ∀ i, i < 8 → w.cell? ⟨g, a + i, none⟩ = some (.int .u8 ((fun i => T.getD (a + i) 0) i)) ∧ 0 ≤ (fun i => T.getD (a + i) 0) i ∧ (fun i => T.getD (a + i) 0) i ≤ 255 := by
  intro i hi
  obtain ⟨x, hx⟩ := get_of (show a + i < T.length by omega)
  have e : T.getD (a + i) 0 = x := by rw [List.getD_eq_getElem?_getD, hx]; rfl
  simp only [e]
  exact ⟨ownsRow_cell ho (bytes_at hx), hT x (List.mem_of_getElem? hx)⟩
set_option maxRecDepth 20000 in
set_option maxHeartbeats 20000000 in
theorem holes_walk (a0 : Option Addr) (len0 cap0 : Nat) (kk ln vr : Nat → Nat) (w : World)
    (hx : ∀ i, i < len0 → ∃ b off, a0 = some ⟨b, off, none⟩ ∧ w.cell? ⟨b, off + i * 3, none⟩ = some (.int .u8 (kk i)) ∧ w.cell? ⟨b, off + i * 3 + 1, none⟩ = some (.int .u8 (ln i)) ∧ w.cell? ⟨b, off + i * 3 + 2, none⟩ = some (.int .u8 (vr i)) ∧ kk i < 256 ∧ ln i < 256 ∧ vr i < 256) :
    Calls Yba.prog 3 #[.slice a0 len0 cap0] w fun e w' => e = .returned (.bool true) ∧ Chg (fun _ => False) w w' := by
  have HX : Hid (∀ i, i < len0 → ∃ b off, a0 = some ⟨b, off, none⟩ ∧ w.cell? ⟨b, off + i * 3, none⟩ = some (.int .u8 (kk i)) ∧ w.cell? ⟨b, off + i * 3 + 1, none⟩ = some (.int .u8 (ln i)) ∧ w.cell? ⟨b, off + i * 3 + 2, none⟩ = some (.int .u8 (vr i)) ∧ kk i < 256 ∧ ln i < 256 ∧ vr i < 256) := hx
  clear hx
  by_cases hbig : len0 ≤ 300
  · go_enter Yba.func3, Yba.ntmps3
    go_upto_region 4 with fail
    obtain ⟨i0, hi, hz0, hz1, hz2⟩ := info_cut info32
    obtain ⟨w1, hmk, ho1, hg1⟩ := run_make_own (P := Yba.prog) w w.heap.size 24 32 i0 _ 6 Yba.underlying24 hi hz0 hz1 .i64 .i64 len0 (by rw [hz2]; omega) (by unfold maxLen; omega) (Nat.le_refl _)
    have hc1 : Chg (fun _ => False) w w1 := Chg.grown hg1 (fun k hk => by cases hk)
    go_wp2_with fail
    have ho2 := ho1.alloc (.cells #[] 30)
    have hv2 : (w1.alloc (.cells #[] 30)).ownsRow w.heap.size 30 2 (.slice (some ⟨w1.heap.size, 0, none⟩) 0 0) 0 [] := ⟨rfl, .inr ⟨w1.heap.size, 0, #[], rfl, hc1.size, heap_alloc_new w1 _, Nat.le_refl _, Nat.zero_le _, rfl, rfl⟩⟩
    have hc2 := hc1.trans (Chg.alloc (fun _ => False) w1 (.cells #[] 30))
    clear hi hz0 hz1 hz2 hmk ho1 hg1
    generalize w1.alloc (.cells #[] 30) = w2 at *
    have ht0 := World.ownsRow_nil w2 w.heap.size 5 1
    go_loopg [3, 4, 5, 38] len0 (fun gk s3 s4 s5 s38 wr => ∃ (t : Nat) (T : List Int) (L : List Sg) (V : List Sp), gk + t = len0 ∧ s38 = .int .i64 t ∧ wr.ownsRow w.heap.size 5 1 s3 T.length (bytes T) ∧ wr.ownsRow w.heap.size 32 6 s4 L.length (cellsOfL rowSg L) ∧ wr.ownsRow w.heap.size 30 2 s5 V.length (cellsOfL rowSp V) ∧ Built t T L V ∧ Chg (fun _ => False) w wr)
    case atStart => exact ⟨0, [], [], [], rfl, rfl, ht0, ho2, hv2, ⟨rfl, by simp, by simp, fun x h => (by cases h), ⟨by simp, by simp, by simp, fun i s h => (by simp at h), fun i j s s' _ h => (by simp at h)⟩⟩, hc2⟩
    case round =>
      clear ho2 hv2 hc2 ht0
      obtain ⟨t, T, L, V, hgt, rfl, hoT, hoL, hoV, hB, hch⟩ := hrel
      by_cases hlt : t < len0
      · obtain ⟨b, off, rfl, x0, x1, x2, hk256, hl256, hv256⟩ := HX.out t hlt
        have y0 := hch.cell x0 (fun h => h)
        have y1 := hch.cell x1 (fun h => h)
        have y2 := hch.cell x2 (fun h => h)
        clear x0 x1 x2
        generalize kk t = K at *
        generalize ln t = N at *
        generalize vr t = R at *
        obtain ⟨ta, tc, rfl⟩ := len_of hoT
        obtain ⟨la, lc, rfl⟩ := len_of hoL
        obtain ⟨vva, vvc, rfl⟩ := len_of hoV
        go_upto_if 44 with fail
        have hib := heap_alloc_new wr (Obj.cells #[.int .u8 K, .int .u8 N, .int .u8 R] 27)
        have hca := Chg.alloc (fun _ => False) wr (Obj.cells #[.int .u8 K, .int .u8 N, .int .u8 R] 27)
        have hoTa := hoT.alloc (Obj.cells #[.int .u8 K, .int .u8 N, .int .u8 R] 27)
        have hoLa := hoL.alloc (Obj.cells #[.int .u8 K, .int .u8 N, .int .u8 R] 27)
        have hoVa := hoV.alloc (Obj.cells #[.int .u8 K, .int .u8 N, .int .u8 R] 27)
        have hwr : w.heap.size ≤ wr.heap.size := hch.size
        have hcwa := hch.trans hca
        generalize wr.alloc (Obj.cells #[.int .u8 K, .int .u8 N, .int .u8 R] 27) = wa at *
        have hwa : w.heap.size ≤ wa.heap.size := hcwa.size
        clear hoT hoL hoV hch hca y0 y1 y2
        have hTn := hB.n
        have hVn := hB.m
        go_cut [3] from 44 to 47 (fun s3 wx => ∃ T1 : List Int, wx.ownsRow w.heap.size 5 1 s3 T1.length (bytes T1) ∧ T.length ≤ T1.length ∧ T1.length ≤ T.length + 1 ∧ (∀ x ∈ T1, 0 ≤ x ∧ x ≤ 255) ∧ Chg (Own 5 w.heap.size wa) wa wx)
        case first =>
          by_cases h0 : 0 < t
          · have h0' : (0 : Int) < (t : Int) := by omega
            go_wp2_with (at_builtin; refine wpList_append_new rfl (.tmp 45) (.tmp 46) 23 rfl w.heap.size 5 _ 1 1 info5 rfl (by decide) Yba.underlying23 _ T.length (bytes T) rfl (hoTa.alloc _) wa.heap.size 1 ([.int .u8 47]) rfl rfl (heap_alloc_new wa _) (by simp [Value.oneCell']) (by omega) (by omega) (by simp; omega) ?_; intro g cap w3 m1 m2 m3)
            go_meet
            refine ⟨T ++ [47], by simpa using m1, by simp, by simp, fun x hx => ?_, own_step (Chg.alloc _ wa _) (hoTa.alloc _) m2⟩
            rcases List.mem_append.1 hx with h | h
            · exact hB.byte x h
            · simp at h; omega
          · obtain rfl : t = 0 := by omega
            go_wp2
            go_meet
            exact ⟨T, hoTa, Nat.le_refl _, by omega, hB.byte, Chg.rfl' _ _⟩
        case rest =>
          obtain ⟨T1, hoT1, hT1a, hT1b, hby1, hcx⟩ := hcut
          rename World => wx
          have hibx := own_row hcx hib (by decide)
          have i1 : wx.cell? ⟨wr.heap.size, 1, none⟩ = some (.int .u8 N) := by rw [cell_of_row _ _ _ _ _ _ hibx]; rfl
          obtain ⟨ta1, tc1, rfl⟩ := len_of hoT1
          go_wp2_with fail
          go_loopg [3, 10] (N % 20 + 1) (fun gk s3 s10 wy => ∃ (j : Nat) (T2 : List Int), gk + j = N % 20 + 1 ∧ s10 = .int .i64 j ∧ wy.ownsRow w.heap.size 5 1 s3 T2.length (bytes T2) ∧ T2.length = T1.length + j ∧ (∀ x ∈ T2, 0 ≤ x ∧ x ≤ 255) ∧ Chg (Own 5 w.heap.size wa) wa wy)
          case atStart => exact ⟨0, T1, rfl, rfl, hoT1, rfl, hby1, hcx⟩
          case round =>
            clear i1 hibx
            obtain ⟨j, T2, hgj, rfl, hoT2, hT2, hby2, hcy⟩ := hrel
            rename World => wy
            have hiby := own_row hcy hib (by decide)
            have HT2 : Hid (T2.length = T1.length + j) := hT2
            have hT2b : T2.length ≤ 7000 := by have := hB.l; omega
            have hT1c : T1.length ≤ 7000 := by have := hB.l; omega
            clear hT2
            obtain ⟨ta2, tc2, rfl⟩ := len_of hoT2
            have hwy : w.heap.size ≤ wy.heap.size := Nat.le_trans hwa hcy.size
            by_cases hjl : j < N % 20 + 1
            · have i1 : wy.cell? ⟨wr.heap.size, 1, none⟩ = some (.int .u8 N) := by rw [cell_of_row _ _ _ _ _ _ hiby]; rfl
              go_wp2_with (at_builtin; refine wpList_append_new rfl (.tmp 61) (.tmp 73) 23 rfl w.heap.size 5 _ 1 1 info5 rfl (by decide) Yba.underlying23 _ T2.length (bytes T2) rfl (hoT2.alloc _) wy.heap.size 1 ([.int .u8 (97 + ((N : Int) * 7 + t + j) % 26)]) rfl rfl (heap_alloc_new wy _) (by simp [Value.oneCell']) (by omega) (by omega) (by simp; omega) ?_; intro g cap w3 m1 m2 m3)
              go_roundg (N % 20 + 1 - (j + 1))
              case measure => omega
              case rel =>
                refine ⟨j + 1, T2 ++ [97 + ((N : Int) * 7 + t + j) % 26], by omega, by go_num, by simpa using m1, by simp [HT2.out]; omega, fun x hx => ?_, own_step (hcy.trans (Chg.alloc _ wy _)) (hoT2.alloc _) m2⟩
                rcases List.mem_append.1 hx with h | h
                · exact hby2 x h
                · simp at h; omega
            · obtain rfl : j = N % 20 + 1 := by omega
              have hoL2 := own_other hcy hoLa (by decide)
              have hoV2 := own_other hcy hoVa (by decide)
              have hcwy := own_none hcwa hcy (Nat.le_refl _)
              have i0' : wy.cell? ⟨wr.heap.size, 0, none⟩ = some (.int .u8 K) := by rw [cell_of_row _ _ _ _ _ _ hiby]; rfl
              have i2 : wy.cell? ⟨wr.heap.size, 2, none⟩ = some (.int .u8 R) := by rw [cell_of_row _ _ _ _ _ _ hiby]; rfl
              go_upto_if 82 with fail
              go_cut [13] from 82 to 86 (fun s13 wx' => wx' = wy ∧ ∃ nv : Nat, nv ≤ 2 ∧ s13 = .int .i64 nv)
              case first =>
                by_cases hk : K % 4 = 0
                · have hk' : ((K : Int) % 4) = 0 := by omega
                  go_wp2
                  go_meet
                  exact ⟨rfl, 0, by omega, rfl⟩
                · have hk' : ¬ ((K : Int) % 4) = 0 := by omega
                  go_wp2
                  go_meet
                  exact ⟨rfl, R % 3, by omega, by go_num⟩
              case rest =>
                obtain ⟨rfl, nv, hnv, rfl⟩ := hcut
                clear i0' i2
                have hVb : V.length ≤ 600 := by have := hB.l; omega
                go_wp2_with fail
                rename World => wy
                go_loopg [5, 15] nv (fun gk s5 s15 wz => ∃ (v : Nat) (V2 : List Sp), gk + v = nv ∧ s15 = .int .i64 v ∧ wz.ownsRow w.heap.size 30 2 s5 V2.length (cellsOfL rowSp V2) ∧ V2.length = V.length + v ∧ Chg (Own 30 w.heap.size wy) wy wz)
                case atStart => exact ⟨0, V, rfl, rfl, hoV2, rfl, Chg.rfl' _ _⟩
                case round =>
                  obtain ⟨v, V2, hgv, rfl, hoV3, hV2, hcz⟩ := hrel
                  rename World => wz
                  have HV2 : Hid (V2.length = V.length + v) := hV2
                  have hV2b : V2.length ≤ 700 := by omega
                  clear hV2
                  obtain ⟨va3, vc3, rfl⟩ := len_of hoV3
                  have hwz : w.heap.size ≤ wz.heap.size := Nat.le_trans hwy hcz.size
                  by_cases hvl : v < nv
                  · have hrow : [Value.int .i32 T1.length, .int .i32 ((T1.length : Int) + v + 1)] = rowSp ⟨T1.length, T1.length + v + 1⟩ := by simp [rowSp]
                    go_wp2_with (at_builtin; refine wpList_append_new rfl (.tmp 95) (.tmp 103) 25 rfl w.heap.size 30 _ 2 8 info30 rfl (by decide) Yba.underlying25 _ V2.length (cellsOfL rowSp V2) rfl (hoV3.alloc _) wz.heap.size 1 ([.int .i32 T1.length, .int .i32 ((T1.length : Int) + v + 1)]) rfl rfl (heap_alloc_new wz _) (by simp [Value.oneCell']) (by omega) (by omega) (by simp; omega) ?_; intro g cap w3 m1 m2 m3)
                    go_roundg (nv - (v + 1))
                    case measure => omega
                    case rel =>
                      refine ⟨v + 1, V2 ++ [⟨T1.length, T1.length + v + 1⟩], by omega, by go_num, ?_, by simp [HV2.out]; omega, own_step (hcz.trans (Chg.alloc _ wz _)) (hoV3.alloc _) m2⟩
                      rw [fm_append, fm_one, ← hrow, List.length_append]
                      exact m1
                  · obtain rfl : v = nv := by omega
                    have hoL3 := own_other hcz hoL2 (by decide)
                    have hoT3 := own_other hcz hoT2 (by decide)
                    have hcwz := own_none hcwy hcz (Nat.le_refl _)
                    have hLb3 : L.length < 300 := by have := hB.l; omega
                    have hrow : [Value.int .u8 ((K : Int) % 4), .int .u8 0, .int .i32 T1.length, .int .i32 T2.length, .int .i32 V.length, .int .i32 ((V.length : Int) + v)] = rowSg ⟨K % 4, T1.length, T2.length, V.length, V.length + v⟩ := by simp [rowSg]
                    go_wp2_with (at_builtin; refine wpList_append_new rfl (.tmp 105) (.tmp 117) 24 rfl w.heap.size 32 _ 6 20 info32 rfl (by decide) Yba.underlying24 _ L.length (cellsOfL rowSg L) rfl (hoL3.alloc _) wz.heap.size 1 ([.int .u8 ((K : Int) % 4), .int .u8 0, .int .i32 T1.length, .int .i32 T2.length, .int .i32 V.length, .int .i32 ((V.length : Int) + v)]) rfl rfl (heap_alloc_new wz _) (by simp [Value.oneCell']) (by omega) (by omega) (by simp; omega) ?_; intro g cap w3 m1 m2 m3)
                    have hcw3 : Chg (Own 32 w.heap.size wz) wz w3 := own_step (Chg.alloc _ wz _) (hoL3.alloc _) m2
                    go_roundg (len0 - (t + 1))
                    case measure => omega
                    case rel =>
                      refine ⟨t + 1, T2, L ++ [⟨K % 4, T1.length, T2.length, V.length, V.length + v⟩], V2, by omega, by go_num, own_other hcw3 hoT3 (by decide), ?_, own_other hcw3 hoV3 (by decide), ⟨by have := hB.l; simp; omega, ?_, ?_, hby2, ?_⟩, own_none hcwz hcw3 (Nat.le_refl _)⟩
                      · rw [fm_append, fm_one, ← hrow, List.length_append]
                        exact m1
                      · have := HT2.out; omega
                      · have := HV2.out; omega
                      · have e1 := HT2.out
                        have e2 := HV2.out
                        refine (hB.wf.mono (n' := T2.length) (m' := V2.length) (by omega) (by omega) (by omega) (by omega)).push _ (by omega) ⟨by simp; omega, by simp; omega, by simp, by simp, by simp; omega⟩ (fun i s' hs' => ?_)
                        have := (hB.wf.one i s' hs').2.2.1
                        simp; omega
      · obtain rfl : len0 = t := by omega
        have hLl := hB.l
        obtain ⟨ta, tc, rfl⟩ := len_of hoT
        obtain ⟨la, lc, rfl⟩ := len_of hoL
        obtain ⟨vva, vvc, rfl⟩ := len_of hoV
        have hTn := hB.n
        have hVn := hB.m
        obtain ⟨S, hconv, hSs, hSb⟩ := conv_own hoT hB.byte
        have hnew := new_walk S V L w.heap.size w.heap.size la vva lc vvc wr (by rw [hSs]; exact hB.wf) hoL hoV
        have HLl : Hid (L.length = len0) := hLl
        have hLb : L.length ≤ 300 := by omega
        clear hLl
        go_wp2_with fail
        refine Calls.mono hnew ?_
        rintro e wn ⟨rfl, hv, hpn, hohn, hcn⟩
        obtain ⟨ha, hcap, rfl⟩ := len_of hohn
        have hoTn := hcn.ownsRow hoT (fun _ _ h => h)
        have hoLn := hcn.ownsRow hoL (fun _ _ h => h)
        have hoVn := hcn.ownsRow hoV (fun _ _ h => h)
        have hcwn := hch.trans hcn
        clear hnew hoT hoL hoV hch hcn hconv
        generalize wr.heap.size = pb at *
        rw [hSs] at hpn
        have p0 : wn.cell? ⟨pb, 0, none⟩ = some (.string S) := by rw [cell_of_row _ _ _ _ _ _ hpn]; rfl
        have p1 : wn.cell? ⟨pb, 1, none⟩ = some (.slice ha (hl S V L L.length).length hcap) := by rw [cell_of_row _ _ _ _ _ _ hpn]; rfl
        have p4 : wn.cell? ⟨pb, 4, none⟩ = some (.slice vva V.length vvc) := by rw [cell_of_row _ _ _ _ _ _ hpn]; rfl
        have p5 : wn.cell? ⟨pb, 5, none⟩ = some (.slice la L.length lc) := by rw [cell_of_row _ _ _ _ _ _ hpn]; rfl
        go_wp2_with fail
        go_loopg [158] L.length (fun gk i wz => ∃ t N : Nat, gk + t = L.length ∧ i = .int .i64 t ∧ wz = wn.drewN N)
        case atStart => exact ⟨0, 0, rfl, rfl, rfl⟩
        case round =>
          obtain ⟨t, N, hgt, rfl, rfl⟩ := hrel
          by_cases hlt2 : t < L.length
          · obtain ⟨s, hsg⟩ := get_of hlt2
            obtain ⟨g, scap, _, hform, _⟩ := ownsRow_form hoLn (by omega)
            simp only [Value.slice.injEq] at hform
            obtain ⟨rfl, _, rfl⟩ := hform
            have c0 := own_at lenSg hoLn hsg 0 _ (by omega) rfl
            have c1 := own_at lenSg hoLn hsg 1 _ (by omega) rfl
            have c2 := own_at lenSg hoLn hsg 2 _ (by omega) rfl
            have c3 := own_at lenSg hoLn hsg 3 _ (by omega) rfl
            have c4 := own_at lenSg hoLn hsg 4 _ (by omega) rfl
            have c5 := own_at lenSg hoLn hsg 5 _ (by omega) rfl
            rw [Nat.add_zero] at c0
            go_wp2_with fail
            go_quiet (fail)
            go_wp2
            go_roundg (L.length - (t + 1))
            case measure => omega
            case rel => exact ⟨t + 1, N + nq, by omega, by go_num, rfl⟩
          · obtain rfl : t = L.length := by omega
            go_wp2_with fail
            go_loopg [176] V.length (fun gk i wz => ∃ t N : Nat, gk + t = V.length ∧ i = .int .i64 t ∧ wz = wn.drewN N)
            case atStart => exact ⟨0, N, rfl, rfl, rfl⟩
            case round =>
              obtain ⟨t, M, hgt2, rfl, rfl⟩ := hrel
              by_cases hlt3 : t < V.length
              · obtain ⟨sp, hsp⟩ := get_of hlt3
                obtain ⟨g, scap, _, hform, _⟩ := ownsRow_form hoVn (by omega)
                simp only [Value.slice.injEq] at hform
                obtain ⟨rfl, _, rfl⟩ := hform
                have c0 := own_at lenSp hoVn hsp 0 _ (by omega) rfl
                have c1 := own_at lenSp hoVn hsp 1 _ (by omega) rfl
                rw [Nat.add_zero] at c0
                go_wp2_with fail
                go_quiet (fail)
                go_wp2
                go_roundg (V.length - (t + 1))
                case measure => omega
                case rel => exact ⟨t + 1, M + nq, by omega, by go_num, rfl⟩
              · obtain rfl : t = V.length := by omega
                go_wp2_with fail
                have hcd := Chg.drewN (fun _ => False) wn M
                have hpd := hcd.at hpn (fun h => h)
                have hohd := hcd.ownsRow hohn (fun _ _ h => h)
                have hoTd := hcd.ownsRow hoTn (fun _ _ h => h)
                have hoLd := hcd.ownsRow hoLn (fun _ _ h => h)
                have hoVd := hcd.ownsRow hoVn (fun _ _ h => h)
                have hcwd := hcwn.trans hcd
                clear p0 p1 p4 p5 hpn hohn hoTn hoLn hoVn hcwn hcd
                generalize wn.drewN M = wd at *
                have hbt : ∀ i, i < T.length → bt S i = T.getD i 0 := fun i hi => by
                  obtain ⟨x, hx⟩ := get_of hi
                  rw [hSb i x hx, List.getD_eq_getElem?_getD, hx]
                  rfl
                have HBY : Hid (∀ x ∈ T, 0 ≤ x ∧ x ≤ 255) := hB.byte
                have HPD : Hid (wd.heap[pb]? = some (patRow S (.slice ha (hl S V L L.length).length hcap) (ld L L.length) T.length (.slice vva V.length vvc) (.slice la L.length lc))) := hpd
                have HOH : Hid (wd.ownsRow (pb + 1) 40 10 (.slice ha (hl S V L L.length).length hcap) (hl S V L L.length).length (cellsOfL rowHo (hl S V L L.length))) := hohd
                have HOT : Hid (wd.ownsRow w.heap.size 5 1 (.slice ta T.length tc) T.length (bytes T)) := hoTd
                have HOL : Hid (wd.ownsRow w.heap.size 32 6 (.slice la L.length lc) L.length (cellsOfL rowSg L)) := hoLd
                have HOV : Hid (wd.ownsRow w.heap.size 30 2 (.slice vva V.length vvc) V.length (cellsOfL rowSp V)) := hoVd
                have HCW : Hid (Chg (fun _ => False) w wd) := hcwd
                clear hpd hohd hoTd hoLd hoVd hcwd
                go_loopg [20, 21, 194] L.length (fun gk s20 s21 i wz => ∃ t : Nat, gk + t = L.length ∧ s20 = .int .i64 ((hl S V L t).length : Nat) ∧ s21 = .int .i32 (ld L t : Nat) ∧ i = .int .i64 t ∧ Chg (fun _ => False) wd wz)
                case atStart => exact ⟨0, rfl, rfl, rfl, rfl, Chg.rfl' _ _⟩
                case round =>
                  obtain ⟨t, hgt3, rfl, rfl, rfl, hcz⟩ := hrel
                  rename World => wz
                  have hpz := hcz.at HPD.out (fun h => h)
                  have hpbz : pb < wz.heap.size := lt_of_block hpz
                  have p1 : wz.cell? ⟨pb, 1, none⟩ = some (.slice ha (hl S V L L.length).length hcap) := by rw [cell_of_row _ _ _ _ _ _ hpz]; rfl
                  have hllt : (hl S V L t).length ≤ 300 := Nat.le_trans (hl_len t) (by omega)
                  have hlln : (hl S V L L.length).length ≤ 300 := Nat.le_trans (hl_len _) (by omega)
                  by_cases hlt4 : t < L.length
                  · obtain ⟨s, hsg⟩ := get_of hlt4
                    have hoLz := hcz.ownsRow HOL.out (fun _ _ h => h)
                    obtain ⟨g, scap, _, hform, _⟩ := ownsRow_form hoLz (by omega)
                    simp only [Value.slice.injEq] at hform
                    obtain ⟨rfl, _, rfl⟩ := hform
                    have c0 := own_at lenSg hoLz hsg 0 _ (by omega) rfl
                    have c1 := own_at lenSg hoLz hsg 1 _ (by omega) rfl
                    have c2 := own_at lenSg hoLz hsg 2 _ (by omega) rfl
                    have c3 := own_at lenSg hoLz hsg 3 _ (by omega) rfl
                    have c4 := own_at lenSg hoLz hsg 4 _ (by omega) rfl
                    have c5 := own_at lenSg hoLz hsg 5 _ (by omega) rfl
                    rw [Nat.add_zero] at c0
                    obtain ⟨hk3, hts, hte, hvs, hve⟩ := hB.wf.one t s hsg
                    have hld := hB.wf.ld_le hsg
                    by_cases hk : s.k = 0
                    · have hkn : ((s.k : Int) == 0) = true := by simp [hk]
                      go_wp2
                      go_roundg (L.length - (t + 1))
                      case measure => omega
                      case rel => exact ⟨t + 1, by omega, by rw [hl_lit hsg hk], by rw [ld_lit hsg hk], by go_num, hcz.trans (Chg.alloc _ _ _)⟩
                    · have hkn : ((s.k : Int) == 0) = false := by simp; omega
                      have hget := hl_get (S := S) (V := V) hlt4 hsg hk
                      have hhl := lt_of_get hget
                      have hohz := hcz.ownsRow HOH.out (fun _ _ h => h)
                      have hoTz := hcz.ownsRow HOT.out (fun _ _ h => h)
                      have hoVz := hcz.ownsRow HOV.out (fun _ _ h => h)
                      obtain ⟨gh, hcp, _, hhform, _⟩ := ownsRow_form hohz (by omega)
                      simp only [Value.slice.injEq] at hhform
                      obtain ⟨rfl, _, rfl⟩ := hhform
                      have d0 := own_at lenHo hohz hget 0 _ (by omega) rfl
                      have d1 := own_at lenHo hohz hget 1 _ (by omega) rfl
                      have e2 : wz.cell? ⟨gh, (hl S V L t).length * 10 + 2, none⟩ = some (.int .i32 (ld L t : Nat)) := own_at lenHo hohz hget 2 _ (by omega) rfl
                      have e3 : wz.cell? ⟨gh, (hl S V L t).length * 10 + 3, none⟩ = some (.int .i32 s.ts) := own_at lenHo hohz hget 3 _ (by omega) rfl
                      have d4 := own_at lenHo hohz hget 4 _ (by omega) rfl
                      have d5 := own_at lenHo hohz hget 5 _ (by omega) rfl
                      have e6 : wz.cell? ⟨gh, (hl S V L t).length * 10 + 6, none⟩ = some (.int .i32 s.vs) := own_at lenHo hohz hget 6 _ (by omega) rfl
                      have e7 : wz.cell? ⟨gh, (hl S V L t).length * 10 + 7, none⟩ = some (.int .i32 t) := own_at lenHo hohz hget 7 _ (by omega) rfl
                      have e8 : wz.cell? ⟨gh, (hl S V L t).length * 10 + 8, none⟩ = some (.int .u8 s.k) := own_at lenHo hohz hget 8 _ (by omega) rfl
                      have e9 : wz.cell? ⟨gh, (hl S V L t).length * 10 + 9, none⟩ = some (.bool (decide ((2 : Int) ≤ (s.ve : Int) - s.vs))) := by
                        rw [show decide ((2 : Int) ≤ (s.ve : Int) - s.vs) = (mkHo S V (ld L t) t s).cx by show _ = decide (s.vs + 1 < s.ve); rw [decide_eq_decide]; omega]
                        exact own_at lenHo hohz hget 9 _ (by omega) rfl
                      rw [Nat.add_zero] at d0
                      have hghz : gh < wz.heap.size := (hohz.lt gh rfl).2
                      have hgz : g < wz.heap.size := (hoLz.lt g rfl).2
                      have HOHZ : Hid (wz.ownsRow (pb + 1) 40 10 (.slice (some ⟨gh, 0, none⟩) (hl S V L L.length).length hcap) (hl S V L L.length).length (cellsOfL rowHo (hl S V L L.length))) := hohz
                      clear hohz hoLz
                      by_cases h8 : ld L t + 8 ≤ s.ts
                      · by_cases hvv : s.vs < s.ve
                        · skip
                          obtain ⟨gv, vcap, _, hvform, _⟩ := ownsRow_form hoVz (by omega)
                          simp only [Value.slice.injEq] at hvform
                          obtain ⟨rfl, _, rfl⟩ := hvform
                          obtain ⟨sp, hsp⟩ := get_of (show s.vs < V.length by omega)
                          have v0 := own_at lenSp hoVz hsp 0 _ (by omega) rfl
                          have v1 := own_at lenSp hoVz hsp 1 _ (by omega) rfl
                          rw [Nat.add_zero] at v0
                          have V0 : ∀ A B C D, ((((wz.alloc A).alloc B).alloc C).alloc D).cell? ⟨gv, s.vs * 2, none⟩ = some (.int .i32 sp.a) := fun A B C D => (Chg.four wz A B C D).cell v0 (fun h => h)
                          have V1 : ∀ A B C D, ((((wz.alloc A).alloc B).alloc C).alloc D).cell? ⟨gv, s.vs * 2 + 1, none⟩ = some (.int .i32 sp.b) := fun A B C D => (Chg.four wz A B C D).cell v1 (fun h => h)
                          have hvi : (s.vs : Int) < (s.ve : Int) := by omega
                          have hvl : (s.vs : Int) < (V.length : Int) := by omega
                          obtain ⟨gt, tcap, _, htform, _⟩ := ownsRow_form hoTz (by omega)
                          simp only [Value.slice.injEq] at htform
                          obtain ⟨rfl, _, rfl⟩ := htform
                          have h8i : (8 : Int) ≤ (s.ts : Int) - (ld L t : Nat) := by omega
                          have f0 : (mkHo S V (ld L t) t s).hd = w8 (fun i => T.getD (ld L t + i) 0) := by
                            simp only [mkHo, if_pos h8]
                            exact w8_eq _ _ (fun i hi => hbt (ld L t + i) (by omega))
                          have f1 : (mkHo S V (ld L t) t s).en = w8 (fun i => T.getD (s.ts - 8 + i) 0) := by
                            simp only [mkHo, if_pos h8]
                            exact w8_eq _ _ (fun i hi => hbt (s.ts - 8 + i) (by omega))
                          have f4 : (mkHo S V (ld L t) t s).fa = sp.a := by simp [mkHo, hvv, hsp]
                          have f5 : (mkHo S V (ld L t) t s).fb = sp.b := by simp [mkHo, hvv, hsp]
                          have e0 : wz.cell? ⟨gh, (hl S V L t).length * 10, none⟩ = some (.int .u64 (w8 (fun i => T.getD (ld L t + i) 0))) := by rw [d0, f0]
                          have e1 : wz.cell? ⟨gh, (hl S V L t).length * 10 + 1, none⟩ = some (.int .u64 (w8 (fun i => T.getD (s.ts - 8 + i) 0))) := by rw [d1, f1]
                          have e4 : wz.cell? ⟨gh, (hl S V L t).length * 10 + 4, none⟩ = some (.int .i32 (sp.a)) := by rw [d4, f4]
                          have e5 : wz.cell? ⟨gh, (hl S V L t).length * 10 + 5, none⟩ = some (.int .i32 (sp.b)) := by rw [d5, f5]
                          clear d0 d1 d4 d5 f0 f1 f4 f5
                          generalize hTG : (fun i => T.getD (ld L t + i) 0) = tg at *
                          generalize hTE : (fun i => T.getD (s.ts - 8 + i) 0) = te at *
                          have hgtz : gt < wz.heap.size := (hoTz.lt gt rfl).2
                          go_wp2_with fail
                          refine Calls.mono (zzw_walk gt (ld L t) T.length tc tg _ (by omega) (by omega) (by rw [← hTG]; exact text_at ((Chg.four wz _ _ _ _).ownsRow hoTz (fun _ _ h => h)) HBY.out _ (by omega))) ?_
                          rintro e w5 ⟨rfl, rfl⟩
                          go_wp2_with fail
                          rw [show ((s.ts : Int) - 8) = ((s.ts - 8 : Nat) : Int) by omega]
                          refine Calls.mono (zzw_walk gt (s.ts - 8) T.length tc te _ (by omega) (by omega) (by rw [← hTE]; exact text_at ((Chg.four wz _ _ _ _).ownsRow hoTz (fun _ _ h => h)) HBY.out _ (by omega))) ?_
                          rintro e w6 ⟨rfl, rfl⟩
                          go_wp2
                          go_roundg (L.length - (t + 1))
                          case measure => omega
                          case rel => exact ⟨t + 1, by omega, by rw [hl_hole hsg hk]; simp, by rw [ld_hole hsg hk], by go_num, hcz.trans (Chg.four wz _ _ _ _)⟩
                        · skip
                          have hvi : ¬ (s.vs : Int) < (s.ve : Int) := by omega
                          obtain ⟨gt, tcap, _, htform, _⟩ := ownsRow_form hoTz (by omega)
                          simp only [Value.slice.injEq] at htform
                          obtain ⟨rfl, _, rfl⟩ := htform
                          have h8i : (8 : Int) ≤ (s.ts : Int) - (ld L t : Nat) := by omega
                          have f0 : (mkHo S V (ld L t) t s).hd = w8 (fun i => T.getD (ld L t + i) 0) := by
                            simp only [mkHo, if_pos h8]
                            exact w8_eq _ _ (fun i hi => hbt (ld L t + i) (by omega))
                          have f1 : (mkHo S V (ld L t) t s).en = w8 (fun i => T.getD (s.ts - 8 + i) 0) := by
                            simp only [mkHo, if_pos h8]
                            exact w8_eq _ _ (fun i hi => hbt (s.ts - 8 + i) (by omega))
                          have f4 : (mkHo S V (ld L t) t s).fa = 0 := by simp [mkHo, hvv]
                          have f5 : (mkHo S V (ld L t) t s).fb = 0 := by simp [mkHo, hvv]
                          have e0 : wz.cell? ⟨gh, (hl S V L t).length * 10, none⟩ = some (.int .u64 (w8 (fun i => T.getD (ld L t + i) 0))) := by rw [d0, f0]
                          have e1 : wz.cell? ⟨gh, (hl S V L t).length * 10 + 1, none⟩ = some (.int .u64 (w8 (fun i => T.getD (s.ts - 8 + i) 0))) := by rw [d1, f1]
                          have e4 : wz.cell? ⟨gh, (hl S V L t).length * 10 + 4, none⟩ = some (.int .i32 (0)) := by rw [d4, f4]; rfl
                          have e5 : wz.cell? ⟨gh, (hl S V L t).length * 10 + 5, none⟩ = some (.int .i32 (0)) := by rw [d5, f5]; rfl
                          clear d0 d1 d4 d5 f0 f1 f4 f5
                          generalize hTG : (fun i => T.getD (ld L t + i) 0) = tg at *
                          generalize hTE : (fun i => T.getD (s.ts - 8 + i) 0) = te at *
                          have hgtz : gt < wz.heap.size := (hoTz.lt gt rfl).2
                          go_wp2_with fail
                          refine Calls.mono (zzw_walk gt (ld L t) T.length tc tg _ (by omega) (by omega) (by rw [← hTG]; exact text_at ((Chg.four wz _ _ _ _).ownsRow hoTz (fun _ _ h => h)) HBY.out _ (by omega))) ?_
                          rintro e w5 ⟨rfl, rfl⟩
                          go_wp2_with fail
                          rw [show ((s.ts : Int) - 8) = ((s.ts - 8 : Nat) : Int) by omega]
                          refine Calls.mono (zzw_walk gt (s.ts - 8) T.length tc te _ (by omega) (by omega) (by rw [← hTE]; exact text_at ((Chg.four wz _ _ _ _).ownsRow hoTz (fun _ _ h => h)) HBY.out _ (by omega))) ?_
                          rintro e w6 ⟨rfl, rfl⟩
                          go_wp2
                          go_roundg (L.length - (t + 1))
                          case measure => omega
                          case rel => exact ⟨t + 1, by omega, by rw [hl_hole hsg hk]; simp, by rw [ld_hole hsg hk], by go_num, hcz.trans (Chg.four wz _ _ _ _)⟩
                      · by_cases hvv : s.vs < s.ve
                        · skip
                          obtain ⟨gv, vcap, _, hvform, _⟩ := ownsRow_form hoVz (by omega)
                          simp only [Value.slice.injEq] at hvform
                          obtain ⟨rfl, _, rfl⟩ := hvform
                          obtain ⟨sp, hsp⟩ := get_of (show s.vs < V.length by omega)
                          have v0 := own_at lenSp hoVz hsp 0 _ (by omega) rfl
                          have v1 := own_at lenSp hoVz hsp 1 _ (by omega) rfl
                          rw [Nat.add_zero] at v0
                          have V0 : ∀ A B C D, ((((wz.alloc A).alloc B).alloc C).alloc D).cell? ⟨gv, s.vs * 2, none⟩ = some (.int .i32 sp.a) := fun A B C D => (Chg.four wz A B C D).cell v0 (fun h => h)
                          have V1 : ∀ A B C D, ((((wz.alloc A).alloc B).alloc C).alloc D).cell? ⟨gv, s.vs * 2 + 1, none⟩ = some (.int .i32 sp.b) := fun A B C D => (Chg.four wz A B C D).cell v1 (fun h => h)
                          have hvi : (s.vs : Int) < (s.ve : Int) := by omega
                          have hvl : (s.vs : Int) < (V.length : Int) := by omega
                          have h8i : ¬ (8 : Int) ≤ (s.ts : Int) - (ld L t : Nat) := by omega
                          have f0 : (mkHo S V (ld L t) t s).hd = 0 := by
                            simp only [mkHo, if_neg h8]
                          have f1 : (mkHo S V (ld L t) t s).en = 0 := by
                            simp only [mkHo, if_neg h8]
                          have f4 : (mkHo S V (ld L t) t s).fa = sp.a := by simp [mkHo, hvv, hsp]
                          have f5 : (mkHo S V (ld L t) t s).fb = sp.b := by simp [mkHo, hvv, hsp]
                          have e0 : wz.cell? ⟨gh, (hl S V L t).length * 10, none⟩ = some (.int .u64 (0)) := by rw [d0, f0]
                          have e1 : wz.cell? ⟨gh, (hl S V L t).length * 10 + 1, none⟩ = some (.int .u64 (0)) := by rw [d1, f1]
                          have e4 : wz.cell? ⟨gh, (hl S V L t).length * 10 + 4, none⟩ = some (.int .i32 (sp.a)) := by rw [d4, f4]
                          have e5 : wz.cell? ⟨gh, (hl S V L t).length * 10 + 5, none⟩ = some (.int .i32 (sp.b)) := by rw [d5, f5]
                          clear d0 d1 d4 d5 f0 f1 f4 f5
                          go_wp2
                          go_roundg (L.length - (t + 1))
                          case measure => omega
                          case rel => exact ⟨t + 1, by omega, by rw [hl_hole hsg hk]; simp, by rw [ld_hole hsg hk], by go_num, hcz.trans (Chg.four wz _ _ _ _)⟩
                        · skip
                          have hvi : ¬ (s.vs : Int) < (s.ve : Int) := by omega
                          have h8i : ¬ (8 : Int) ≤ (s.ts : Int) - (ld L t : Nat) := by omega
                          have f0 : (mkHo S V (ld L t) t s).hd = 0 := by
                            simp only [mkHo, if_neg h8]
                          have f1 : (mkHo S V (ld L t) t s).en = 0 := by
                            simp only [mkHo, if_neg h8]
                          have f4 : (mkHo S V (ld L t) t s).fa = 0 := by simp [mkHo, hvv]
                          have f5 : (mkHo S V (ld L t) t s).fb = 0 := by simp [mkHo, hvv]
                          have e0 : wz.cell? ⟨gh, (hl S V L t).length * 10, none⟩ = some (.int .u64 (0)) := by rw [d0, f0]
                          have e1 : wz.cell? ⟨gh, (hl S V L t).length * 10 + 1, none⟩ = some (.int .u64 (0)) := by rw [d1, f1]
                          have e4 : wz.cell? ⟨gh, (hl S V L t).length * 10 + 4, none⟩ = some (.int .i32 (0)) := by rw [d4, f4]; rfl
                          have e5 : wz.cell? ⟨gh, (hl S V L t).length * 10 + 5, none⟩ = some (.int .i32 (0)) := by rw [d5, f5]; rfl
                          clear d0 d1 d4 d5 f0 f1 f4 f5
                          go_wp2
                          go_roundg (L.length - (t + 1))
                          case measure => omega
                          case rel => exact ⟨t + 1, by omega, by rw [hl_hole hsg hk]; simp, by rw [ld_hole hsg hk], by go_num, hcz.trans (Chg.four wz _ _ _ _)⟩
                  · obtain rfl : t = L.length := by omega
                    have q2 : wz.cell? ⟨pb, 2, none⟩ = some (.int .i32 (ld L L.length : Nat)) := by rw [cell_of_row _ _ _ _ _ _ hpz]; rfl
                    have q3 : wz.cell? ⟨pb, 3, none⟩ = some (.int .i32 T.length) := by rw [cell_of_row _ _ _ _ _ _ hpz]; rfl
                    have hldn := hB.wf.ld_n L.length
                    go_wp2
                    go_ret
                    exact ⟨rfl, HCW.out.trans hcz⟩
  · go_enter Yba.func3, Yba.ntmps3
    go_wp2
    go_ret
    exact ⟨rfl, Chg.rfl' _ _⟩
end Go.Proofs.Ybulkamty
