/-
  OUR OWN. The walk of 'LawS1912APutGet' (function 4).
-/
import Derived.Test.YbulkamooOut
import Derived.Deep.DeepCutAuto
import Derived.Deep.CutBlock
namespace Go.Proofs.Ybulkamoo
open Go.RowKit
set_option linter.unusedVariables false

theorem pgOk_new (w : World) (a b : Int) : PgOk (w.alloc (.cells #[.int .u8 a, .int .u8 b, .int .u8 7] 5)) (.slice (some ⟨w.heap.size, 0, none⟩) 3 3) := ⟨_, 3, [a, b, 7], rfl, heap_alloc_new w _, rfl⟩
theorem CS.alloc {B : Nat} {w : World} {cb mb lim : Nat} {L : List Nd} (h : CS B w cb mb lim L) (o : Obj) : CS B (w.alloc o) cb mb lim L := by
  obtain ⟨Lm, hm, hp⟩ := h.map
  have hc := Chg.alloc (fun _ => False) w o
  exact ⟨h.ls.kept hc (fun h => h) (fun _ _ h => h), hc.cell h.c0 (fun h => h), hc.cell h.c2 (fun h => h), hc.cell h.c3 (fun h => h), ⟨Lm, hm.kept hc (fun h => h), hp⟩, h.keys, h.len, h.pgs, h.base⟩

theorem ret_true {b : Bool} (h : b = true) : Ending.returned (.bool b) = .returned (.bool true) := by rw [h]

set_option maxRecDepth 20000 in
set_option maxHeartbeats 1600000 in
theorem putget_walk (limit n : Int) (a0 : Option Addr) (len0 cap0 : Nat) (z : Nat → Int) (w : World) (h1 : -128 ≤ limit) (h2 : limit ≤ 127) (hlen : len0 ≤ 1024) (hz : ∀ i, 0 ≤ z i ∧ z i ≤ 255)
    (hcell : ∀ i, i < len0 → ∃ b off, a0 = some ⟨b, off, none⟩ ∧ w.cell? ⟨b, off + i, none⟩ = some (.int .u8 (z i))) :
    Calls Yba.prog 4 #[.int .i8 limit, .int .i64 n, .slice a0 len0 cap0] w fun e w' => e = .returned (.bool true) ∧ Below w.heap.size w w' := by
  have hdl : decide ((1024 : Int) < (len0 : Int)) = false := by rw [decide_eq_false_iff_not]; omega
  have HZ : Hid (∀ i, 0 ≤ z i ∧ z i ≤ 255) := hz
  have HCE : Hid (∀ i, i < len0 → ∃ b off, a0 = some ⟨b, off, none⟩ ∧ w.cell? ⟨b, off + i, none⟩ = some (.int .u8 (z i))) := hcell
  clear hz hcell
  go_enter Yba.func4, Yba.ntmps4
  go_wp2_with fail
  refine Calls.mono (new_any _ limit h2 h1 w.heap.size (Nat.le_refl _)) ?_
  rintro e w1 ⟨cb, mb, rfl, hcs1, hch1⟩
  have hb1 : Below w.heap.size w w1 := hch1.below (Nat.le_refl _) (fun _ h => h.elim)
  clear hch1
  go_wp2
  go_loopg [23] len0 (fun gk i wr => ∃ (t : Nat) (L : List Nd), gk + t = len0 ∧ i = .int .i64 t ∧ CS w.heap.size wr cb mb limit.toNat L ∧ (∀ x ∈ L, PgOk wr x.pg) ∧ Below w.heap.size w wr)
  case atStart => exact ⟨0, [], rfl, rfl, hcs1, by simp, hb1⟩
  case round =>
    obtain ⟨t, L, hgt, rfl, hcs, hpg, hbel⟩ := hrel
    by_cases hlt : t < len0
    · obtain ⟨b, off, rfl, hc⟩ := HCE.out t hlt
      have hbl : b < w.heap.size := block_lt_of_cell hc
      have hcr : wr.cell? ⟨b, off + t, none⟩ = some (.int .u8 (z t)) := (hbel.cell (p := ⟨b, off + t, none⟩) hbl).trans hc
      obtain ⟨hz0, hz1⟩ := HZ.out t
      have hsz := hbel.size
      clear hc
      go_wp2_with fail
      refine Calls.mono (page_any wr t (by omega)) ?_
      rintro e w2 ⟨pa, pb, rfl, rfl⟩
      go_wp2_with fail
      refine Calls.mono (put_all (hcs.alloc _) _ (some ⟨wr.heap.size, 0, none⟩) 3 3 (by omega) (by simp; omega)) ?_
      rintro e w3 ⟨rfl, L', hcs3, hkp, hfr⟩
      go_wp2
      go_roundg (len0 - (t + 1))
      case measure => omega
      case rel =>
        refine ⟨t + 1, L', by omega, by go_num, hcs3, ?_, (hbel.alloc (by omega) _).trans hfr.below⟩
        intro x hx
        have : (x.n, x.pg) ∈ kp L' := List.mem_map.2 ⟨x, hx, rfl⟩
        rw [hkp] at this
        rcases putK_mem this with h | h
        · obtain ⟨y, hy, e⟩ := List.mem_map.1 h
          simp only [Prod.mk.injEq] at e
          rw [← e.2]
          exact hfr.pgOk ((Fr.alloc wr (Nat.le_refl _) _).pgOk (hpg y hy))
        · simp only [Prod.mk.injEq] at h
          rw [h.2]
          exact hfr.pgOk (pgOk_new wr pa pb)
    · obtain rfl : t = len0 := by omega
      have c3 := hcs.c3
      have hsz := hbel.size
      have hnilq : ∀ (W : World) (p : Option Addr), (binOp .neq 44 (.pointer p) (.pointer none)).run Yba.prog W = .ok (.bool (!p.isNone)) W := fun W p => run_neq_pointer_nil W 44 p (by kernel_rfl)
      by_cases hl0 : limit ≤ 0
      · have hL : L = [] := List.eq_nil_of_length_eq_zero (by have := hcs.len; omega)
        subst hL
        have hl : (Instr.lookup 43 (.map (some mb)) (.int .i64 n) false).run Yba.prog wr = .ok (.pointer none) wr := hcs.look_miss rfl (by simp)
        go_wp2_with fail
        refine Calls.mono (put_all (hcs.alloc _) n (some ⟨wr.heap.size, 0, none⟩) 4 4 (by omega) (by simp; omega)) ?_
        rintro e w3 ⟨rfl, L', hcs3, hkp, hfr⟩
        have hL' : L' = [] := by
          have := hcs3.len
          exact List.eq_nil_of_length_eq_zero (by omega)
        subst hL'
        have hb3 := (hbel.alloc (by omega) (.cells #[.int .u8 9, .int .u8 9, .int .u8 9, .int .u8 9] 5)).trans hfr.below
        have hsz3 := hb3.size
        go_wp2_with fail
        refine Calls.mono (get_no hcs3 n (by simp) hsz3) ?_
        rintro e w4 ⟨rfl, hcs4, hfr4⟩
        have hb4 := hb3.trans hfr4.below
        have hsn := fun (W : World) => Lib.run_eql_slice_nil (P := Yba.prog) W 30 5 none 0 0 0 0 Yba.underlying30
        go_wp2
        go_ret
        exact ⟨rfl, hb4⟩
      · by_cases hk : n ∈ L.map Nd.n
        · obtain ⟨l1, x, l2, rfl, rfl⟩ := split_key hk
          have hl := hcs.look_hit (w' := wr) rfl (x := x) (by simp)
          obtain ⟨pa, pl, pc, hpx⟩ := hcs.pgs x (by simp)
          have cx := (hcs.ls.nodes x (by simp)).2.2
          rw [hpx] at cx
          go_wp2_with fail
          refine Calls.mono (put_all (hcs.alloc _) x.n (some ⟨wr.heap.size, 0, none⟩) 4 4 (by omega) (by simp; omega)) ?_
          rintro e w3 ⟨rfl, L', hcs3, hkp, hfr⟩
          rw [putK, if_pos (Or.inr (by simp [kp]))] at hkp
          have hx' : (x.n, x.pg) ∈ kp L' := by rw [hkp]; exact List.mem_map.2 ⟨x, by simp, rfl⟩
          obtain ⟨y, hy, hyx⟩ := List.mem_map.1 hx'
          simp only [Prod.mk.injEq] at hyx
          obtain ⟨m1, m2, rfl⟩ := List.append_of_mem hy
          have hb3 := (hbel.alloc (by omega) (.cells #[.int .u8 9, .int .u8 9, .int .u8 9, .int .u8 9] 5)).trans hfr.below
          have hsz3 := hb3.size
          have hg := get_yes hcs3 hsz3
          rw [hyx.1, hyx.2, hpx] at hg
          have hpok : PgOk w3 (.slice pa pl pc) := by rw [← hpx]; exact hfr.pgOk ((Fr.alloc wr (Nat.le_refl _) _).pgOk (hpg x (by simp)))
          clear hyx
          go_wp2_with fail
          refine Calls.mono hg ?_
          rintro e w4 ⟨rfl, hcs4, hfr4⟩
          have hb4 := hb3.trans hfr4.below
          go_wp2_with fail
          refine Calls.mono (equal_same w4 _ (hfr4.pgOk hpok)) ?_
          rintro e w5 ⟨rfl, rfl⟩
          go_wp2
          go_ret
          exact ⟨rfl, hb4⟩
        · have hl : (Instr.lookup 43 (.map (some mb)) (.int .i64 n) false).run Yba.prog wr = .ok (.pointer none) wr := hcs.look_miss rfl (fun x hx e => hk (List.mem_map.2 ⟨x, hx, e⟩))
          go_wp2_with fail
          refine Calls.mono (put_all (hcs.alloc _) n (some ⟨wr.heap.size, 0, none⟩) 4 4 (by omega) (by simp; omega)) ?_
          rintro e w3 ⟨rfl, L', hcs3, hkp, hfr⟩
          have hx' : (n, Value.slice (some ⟨wr.heap.size, 0, none⟩) 4 4) ∈ kp L' := by rw [hkp]; exact putK_has (by omega) (by simpa [kp, Function.comp_def] using hk)
          obtain ⟨y, hy, hyx⟩ := List.mem_map.1 hx'
          simp only [Prod.mk.injEq] at hyx
          obtain ⟨m1, m2, rfl⟩ := List.append_of_mem hy
          have hb3 := (hbel.alloc (by omega) (.cells #[.int .u8 9, .int .u8 9, .int .u8 9, .int .u8 9] 5)).trans hfr.below
          have hsz3 := hb3.size
          have hg := get_yes hcs3 hsz3
          rw [hyx.1, hyx.2] at hg
          have hpok : PgOk w3 (.slice (some ⟨wr.heap.size, 0, none⟩) 4 4) := hfr.pgOk ⟨_, 4, [9, 9, 9, 9], rfl, heap_alloc_new wr _, rfl⟩
          clear hyx
          go_wp2_with fail
          refine Calls.mono hg ?_
          rintro e w4 ⟨rfl, hcs4, hfr4⟩
          have hb4 := hb3.trans hfr4.below
          have c34 := hcs4.c3
          have hlen4 := hcs4.len_run (w' := w4) rfl
          have hle := hcs4.len
          go_wp2_with fail
          refine Calls.mono (equal_same w4 _ (hfr4.pgOk hpok)) ?_
          rintro e w5 ⟨rfl, rfl⟩
          generalize (y :: (m1 ++ m2)).length = ll at *
          go_wp2
          go_ret
          exact ⟨ret_true (by simp; omega), hb4⟩
end Go.Proofs.Ybulkamoo
