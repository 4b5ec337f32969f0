/-
  OUR OWN. The walk of 'LawS1912CEntryScript' (function 5).
-/
import Derived.Test.YbulkamooScript2
import Derived.Deep.DeepCutAuto
import Derived.Deep.CutBlock
namespace Go.Proofs.Ybulkamoo
open Go.RowKit
set_option linter.unusedVariables false

theorem push_facts {w w5 w6 : World} {bb : Nat} {M : List ByteArray} {C : List Nat} {g n cap : Nat} {vs : List Value} {ix : Option Nat} (h : BP w w5 bb M C (.slice (some ⟨g, 0, none⟩) n cap) vs ix) {v : Value} {c j : Nat} {xs : List Value} (hxs : w5.ownsRow (bb + 1) 30 1 v c xs)
    (hchg : Chg (fun i => v.ownBlock = some i) w5 w6) (hc : w5.cell? ⟨g, j, none⟩ = some v) :
    w6.cell? ⟨g, j, none⟩ = some v ∧ w6.frozen? ⟨g, j, none⟩ = false ∧ ∀ u, (w6.setCell ⟨g, j, none⟩ u).cell? ⟨bb, 2, none⟩ = some (.map ix) := by
  have hno : ∀ i c' e, w5.heap[i]? = some (.cells c' e (0, 0)) → e ≠ 30 → ¬ v.ownBlock = some i := by
    intro i c' e hi h30 hs
    obtain ⟨cur, hcur⟩ := ownsRow_block hxs hs
    rw [hi] at hcur
    simp only [Option.some.injEq, Obj.cells.injEq] at hcur
    exact h30 hcur.2.1
  obtain ⟨cur, hcur⟩ := ownsRow_block h.own (k := g) rfl
  have row6 := hchg.at hcur (hno _ _ _ hcur (by decide))
  have blk6 := hchg.at h.blk (hno _ _ _ h.blk (by decide))
  have hgb : bb < g := by have := (h.own.lt g rfl).1; omega
  refine ⟨?_, frozen_of_row _ _ _ _ _ row6, fun u => ?_⟩
  · rw [cell_of_row _ _ _ _ _ _ row6]; rw [cell_of_row _ _ _ _ _ _ hcur] at hc; exact hc
  · rw [cell_of_row _ _ _ _ _ _ (blk_set_other (i := j) (v := u) blk6 (by omega : bb ≠ g))]; rfl
theorem growV_dis {t : Nat} {ind : Bool} {M : List ByteArray} {C : List Nat} {ev : Value} {vs : List Value} {ix : Option Nat} (h : PP t ind M C ev vs ix) (k : ByteArray) :
    ∀ (i j : Nat) (v u : Value), (growV M vs k)[i]? = some v → (growV M vs k)[j]? = some u → i ≠ j → ∀ g, v.ownBlock = some g → u.ownBlock ≠ some g := by
  intro i j v u hi hj hij g hg hu
  by_cases hk : k ∈ M
  · rw [growV_yes hk] at hi hj; exact h.vdis i j v u hi hj hij g hg hu
  · rw [growV_no hk] at hi hj
    rcases getElem?_snoc _ _ _ _ hi with hi | ⟨rfl, rfl⟩
    · rcases getElem?_snoc _ _ _ _ hj with hj | ⟨rfl, rfl⟩
      · exact h.vdis i j v u hi hj hij g hg hu
      · simp [Value.ownBlock] at hu
    · simp [Value.ownBlock] at hg
theorem nextC_map {C : List Nat} {j c : Nat} (h : C[j]? = some c) : (C.modify j (· + 1)).map (fun c : Nat => Value.int .i64 (c : Int)) = (C.map (fun c : Nat => Value.int .i64 (c : Int))).set j (.int .i64 ((c : Int) + 1)) := by
  apply List.ext_getElem?
  intro i
  simp only [List.getElem?_map, List.getElem?_modify, List.getElem?_set, List.length_map]
  by_cases hij : j = i
  · subst hij
    have hl := lt_of_getElem? h
    simp only [if_pos trivial, h, Option.map_some, if_pos hl]
    rfl
  · simp [hij]
/-- A row of the driver's own stands while the batch's entry gets its value. -/
theorem kept6 {w5 w6 : World} {bb g n cap : Nat} {ys : List Value} (hown : w5.ownsRow (bb + 1) 61 4 (.slice (some ⟨g, 0, none⟩) n cap) n ys) {v : Value} {c : Nat} {xs : List Value} (hxs : w5.ownsRow (bb + 1) 30 1 v c xs) (hchg : Chg (fun i => v.ownBlock = some i) w5 w6)
    {e : TypeId} {m : Value} {l : Nat} {zs : List Value} (hm : w5.ownsRow (bb + 1) e 1 m l zs) (h1 : e ≠ 30) (h2 : e ≠ 61) (j : Nat) (u : Value) : (w6.setCell ⟨g, j, none⟩ u).ownsRow (bb + 1) e 1 m l zs := by
  have h6 := hchg.ownsRow hm (apart_rows hm hxs h1)
  obtain ⟨cur, hcur⟩ := ownsRow_block hown (k := g) rfl
  have row6 := hchg.at hcur (fun hs => by
    obtain ⟨c', hc'⟩ := ownsRow_block hxs hs
    rw [hcur] at hc'
    simp at hc')
  exact ownsRow_other h6 row6 (by simp [h2.symm]) u
structure DS (w wr : World) (bb t : Nat) (mv cv : Value) (ind : Bool) (M : List ByteArray) (C : List Nat) (ev : Value) (vs : List Value) (ix : Option Nat) : Prop where
  bp : BP w wr bb M C ev vs ix
  pp : PP t ind M C ev vs ix
  mod : wr.ownsRow (bb + 1) 9 1 mv M.length (M.map Value.string)
  cnt : wr.ownsRow (bb + 1) 3 1 cv M.length (C.map fun c : Nat => Value.int .i64 (c : Int))

theorem ownsRow_len {w : World} {base : Nat} {e : TypeId} {size : Nat} {v : Value} {n : Nat} {xs : List Value} (ho : w.ownsRow base e size v n xs) : ∃ a c, v = .slice a n c := by
  rcases ho.2 with ⟨rfl, rfl⟩ | ⟨g, cap, cur, rfl, _⟩
  · exact ⟨none, 0, rfl⟩
  · exact ⟨_, _, rfl⟩

/-- What the search leaves: the key's place, or -1. -/
def jOf (M : List ByteArray) (k : ByteArray) : Int := if place M k < M.length then (place M k : Int) else -1
theorem jOf_yes {M : List ByteArray} {k : ByteArray} (h : k ∈ M) : jOf M k = (place M k : Int) := if_pos (place_lt h)
theorem jOf_no {M : List ByteArray} {k : ByteArray} (h : k ∉ M) : jOf M k = -1 := if_neg (by rw [place_not M k h]; omega)
theorem row_cell {w : World} {base : Nat} {e : TypeId} {g n cap : Nat} {α : Type} {f : α → Value} {M : List α} (ho : w.ownsRow base e 1 (.slice (some ⟨g, 0, none⟩) n cap) n (M.map f)) {i : Nat} {m : α} (hi : M[i]? = some m) : w.cell? ⟨g, i, none⟩ = some (f m) :=
  ownsRow_cell ho (by rw [List.getElem?_map, hi]; rfl)
theorem getElem?_of_lt {α : Type} {M : List α} {i : Nat} (h : i < M.length) : ∃ m, M[i]? = some m := ⟨M[i], List.getElem?_eq_getElem h⟩
theorem newInd_lt {M : List ByteArray} {k l : ByteArray} (hl : M.getLast? = some l) (h : Op.bytesLess l.toList k.toList = true) : newInd false M k = false := by simp [newInd, hl, h]
theorem newInd_eq {M : List ByteArray} {k l : ByteArray} (hl : M.getLast? = some l) (h : (l.toList == k.toList) = true) : newInd false M k = false := by simp only [newInd, hl, h]; simp
theorem newInd_gt {M : List ByteArray} {k l : ByteArray} (hl : M.getLast? = some l) (h : Op.bytesLess l.toList k.toList = false) (h2 : (l.toList == k.toList) = false) : newInd false M k = true := by simp only [newInd, hl, h, h2, less]; rfl
/-- Does the index come in this round? -/
def turnB (ind : Bool) (M : List ByteArray) (k : ByteArray) : Bool := !ind && newInd false M k
theorem turn_true (M : List ByteArray) (k : ByteArray) : turnB true M k = false := rfl
theorem newInd_turn (ind : Bool) (M : List ByteArray) (k : ByteArray) : newInd ind M k = (ind || turnB ind M k) := by cases ind <;> simp [newInd, turnB]
theorem wpList_push1 {P : Program} {ops : Array Oper} {rest : List Oper} {o : Oper} {a : Act} {w : World} {Q : Exit → Act → World → Prop} (hgd : o.guard = none) (s x : Operand) (t : TypeId)
    (ho : o.op = .call { callee := .builtin .append, args := #[s, x], argTypes := #[t, t] })
    (base : Nat) (e : TypeId) (z : Value) (bytes : Nat) (info : (P.info? e).map (fun i => (i.zero, i.size, i.bytes)) = some (some z, 1, bytes)) (hz : z.cells.size = 1) (ht : P.underlying t = some (.slice e))
    (v : Value) (n : Nat) (xs : List Value) (hs : a.eval s = v) (hown : w.ownsRow base e 1 v n xs)
    (hb : Nat) (u : Value) (hx : a.eval x = .slice (some ⟨hb, 0, none⟩) 1 1) (hnew : w.heap[hb]? = some (.cells #[u] e (0, 0))) (h1 : u.oneCell' = true) (hn : n ≤ 100000) (hby : bytes ≤ 64) (hbase : base ≤ w.heap.size)
    (h : ∀ g cap w', w'.ownsRow base e 1 (.slice (some ⟨g, 0, none⟩) (n + 1) cap) (n + 1) (xs ++ [u]) → Chg (fun i => v.ownBlock = some i) w w' → (v.ownBlock = some g ∨ g = w.heap.size) →
      wpList P ops Q rest (a.put o.dst (.slice (some ⟨g, 0, none⟩) (n + 1) cap)) w') : wpList P ops Q (o :: rest) a w := by
  obtain ⟨i0, hi, hz0, hz1, hz2⟩ := info_parts info
  refine wpList_append_own_at _ hgd s x t ho base e i0 z 1 bytes ht hi hz0 hz1 hz2 hz (by decide) v n xs hs hown ⟨hb, 0, none⟩ 1 1 [u] hx rfl ?_ ?_ (by unfold maxLen; omega) ?_ hbase ?_
  · intro j u' hj
    rw [show (⟨hb, 0, none⟩ : Addr).add j = ⟨hb, j, none⟩ by unfold Addr.add; split <;> simp_all, cell_of_row _ _ _ _ _ _ hnew]
    simpa using hj
  · intro u' hu
    simp at hu
    subst hu
    exact h1
  · have : (n + 1) * bytes ≤ 100001 * 64 := Nat.mul_le_mul (by omega) hby
    omega
  · intro v' w' h1 h2 h3 h4
    obtain ⟨g, cap, cur, rfl, -⟩ := ownsRow_form h1 (by omega)
    refine h g cap w' h1 (Chg.grown h2 (fun k hk => hk)) ?_
    rcases h4 with h4 | h4
    · left; rw [← h4]; rfl
    · right; simpa [Value.ownBlock] using h4
theorem Yba.info9 : (Yba.prog.info? 9).map (fun i => (i.zero, i.size, i.bytes)) = some (some (.string ⟨#[]⟩), 1, 16) := by kernel_rfl
theorem Yba.info3 : (Yba.prog.info? 3).map (fun i => (i.zero, i.size, i.bytes)) = some (some (.int .i64 0), 1, 8) := by kernel_rfl
theorem Yba.info30 : (Yba.prog.info? 30).map (fun i => (i.zero, i.size, i.bytes)) = some (some (.slice none 0 0), 1, 24) := by kernel_rfl
theorem notIn_ne {M : List ByteArray} {k : ByteArray} {i : Nat} {m : ByteArray} (h : k ∉ M) (hi : M[i]? = some m) : (m.toList == k.toList) = false := by
  rw [beq_eq_false_iff_ne]
  exact fun e => h (toList_inj e ▸ List.mem_of_getElem? hi)

set_option maxRecDepth 20000 in
set_option maxHeartbeats 1600000 in
theorem script_walk (a0 : Option Addr) (len0 cap0 : Nat) (z : Nat → Int) (w : World) (hlen : len0 ≤ 1024) (hz : ∀ i, 0 ≤ z i ∧ z i ≤ 255)
    (hcell : ∀ i, i < len0 → ∃ b off, a0 = some ⟨b, off, none⟩ ∧ w.cell? ⟨b, off + i, none⟩ = some (.int .u8 (z i))) :
    Calls Yba.prog 5 #[.slice a0 len0 cap0] w fun e w' => e = .returned (.bool true) ∧ Below w.heap.size w w' := by
  have hdl : decide ((1024 : Int) < (len0 : Int)) = false := by rw [decide_eq_false_iff_not]; omega
  have HZ : Hid (∀ i, 0 ≤ z i ∧ z i ≤ 255) := hz
  have HCE : Hid (∀ i, i < len0 → ∃ b off, a0 = some ⟨b, off, none⟩ ∧ w.cell? ⟨b, off + i, none⟩ = some (.int .u8 (z i))) := hcell
  clear hz hcell
  go_enter Yba.func5, Yba.ntmps5
  go_wp2
  go_loopg [23, 4, 5, 6] len0 (fun gk i mv cv iv wr => ∃ t ind M C ev vs ix, gk + t = len0 ∧ i = .int .i64 (t : Nat) ∧ iv = .bool ind ∧ DS w wr w.heap.size t mv cv ind M C ev vs ix)
  case atStart =>
    refine ⟨0, false, [], [], .slice none 0 0, [], none, rfl, rfl, rfl, ⟨⟨(Below.refl _ _).alloc (Nat.le_refl _) _, heap_alloc_new w _, World.ownsRow_nil _ _ _ _, by simp, by simp⟩, ⟨rfl, rfl, rfl, by simp, fun _ => rfl, by simp, by simp, by simp, by simp, by simp⟩, World.ownsRow_nil _ _ _ _, World.ownsRow_nil _ _ _ _⟩⟩
  case round =>
    obtain ⟨t, ind, M, C, ev, vs, ix, hgt, rfl, rfl, D⟩ := hrel
    by_cases hlt : t < len0
    · obtain ⟨b, off, rfl, hc⟩ := HCE.out t hlt
      have hbl : b < w.heap.size := block_lt_of_cell hc
      have hcr : wr.cell? ⟨b, off + t, none⟩ = some (.int .u8 (z t)) := (D.bp.below.cell (p := ⟨b, off + t, none⟩) hbl).trans hc
      obtain ⟨hz0, hz1⟩ := HZ.out t
      obtain ⟨ma, mc, hmv⟩ := ownsRow_len D.mod
      obtain ⟨ca, cc, hcv⟩ := ownsRow_len D.cnt
      subst hmv hcv
      clear hc
      go_upto_block 2 with (go_at_call 12; refine (ckey_any _ _ hz0 hz1).mono ?_; rintro e w' ⟨rfl, rfl⟩)
      generalize keyOfSel (z t) = k
      clear hcr hz0 hz1
      have hmn : M.length ≤ 1024 := by have := D.pp.mlen; omega
      go_cut [10] (fun s10 wx => wr = wx ∧ s10 = .int .i64 (jOf M k))
      case first =>
        have hmod := D.mod
        by_cases hn0 : M.length = 0
        · obtain rfl : M = [] := List.eq_nil_of_length_eq_zero hn0
          clear hn0
          go_wp2_with fail
          refine wp_loop_rounds 1 ?_
          rw [rounds_succ]
          go_wp2
          go_meet
          exact ⟨rfl, rfl⟩
        · obtain ⟨g, cap, cur, hform, -⟩ := ownsRow_form hmod (by omega)
          simp only [Value.slice.injEq] at hform
          obtain ⟨rfl, -, rfl⟩ := hform
          by_cases hk : k ∈ M
          · have hpl := place_lt hk
            have HPM : Hid (M[place M k]? = some k) := place_mem M k hk
            have HPF : Hid (∀ i, i < place M k → M[i]? ≠ some k) := place_first M k
            have HJ : Hid (jOf M k = (place M k : Int)) := jOf_yes hk
            generalize place M k = pl at *
            go_wp2_with fail
            go_loopg [10, 11] pl (fun gk s10 s11 wx => wr = wx ∧ s10 = .int .i64 (-1) ∧ ∃ i : Nat, s11 = .int .i64 i ∧ gk + i = pl)
            case atStart => exact ⟨rfl, rfl, 0, rfl, rfl⟩
            case round =>
              obtain ⟨rfl, rfl, i, rfl, hgi⟩ := hrel
              have hil : i < M.length := by omega
              obtain ⟨mi, hmi⟩ := getElem?_of_lt hil
              have hci := row_cell hmod hmi
              have HMI : Hid (M[i]? = some mi) := hmi
              clear hmi
              by_cases hip : i = pl
              · subst hip
                obtain rfl : k = mi := by have := HPM.out.symm.trans HMI.out; simpa using this
                go_wp2
                go_meet
                exact ⟨rfl, by rw [HJ.out]⟩
              · have hne : (mi.toList == k.toList) = false := by rw [beq_eq_false_iff_ne]; exact fun e => HPF.out i (by omega) (by rw [← toList_inj e]; exact HMI.out)
                go_wp2
                go_roundg (pl - (i + 1))
                case measure => omega
                case rel => exact ⟨rfl, rfl, i + 1, by go_num, by omega⟩
          · have HJ : Hid (jOf M k = -1) := jOf_no hk
            go_wp2_with fail
            go_loopg [10, 11] M.length (fun gk s10 s11 wx => wr = wx ∧ s10 = .int .i64 (-1) ∧ ∃ i : Nat, s11 = .int .i64 i ∧ gk + i = M.length)
            case atStart => exact ⟨rfl, rfl, 0, rfl, rfl⟩
            case round =>
              obtain ⟨rfl, rfl, i, rfl, hgi⟩ := hrel
              by_cases hil : i < M.length
              · obtain ⟨mi, hmi⟩ := getElem?_of_lt hil
                have hci := row_cell hmod hmi
                have hne := notIn_ne hk hmi
                clear hmi
                go_wp2
                go_roundg (M.length - (i + 1))
                case measure => omega
                case rel => exact ⟨rfl, rfl, i + 1, by go_num, by omega⟩
              · obtain rfl : i = M.length := by omega
                go_wp2
                go_meet
                exact ⟨rfl, by rw [HJ.out]⟩
      case rest =>
        obtain ⟨rfl, rfl⟩ := hcut
        go_upto_region 18 with fail
        go_cut [68] (fun s68 wx => wr = wx ∧ s68 = .bool (turnB ind M k))
        case first =>
          have hmod := D.mod
          cases ind with
          | true =>
            go_wp2
            go_meet
            exact ⟨rfl, rfl⟩
          | false =>
            by_cases hn0 : M.length = 0
            · obtain rfl : M = [] := List.eq_nil_of_length_eq_zero hn0
              clear hn0
              go_wp2
              go_meet
              exact ⟨rfl, rfl⟩
            · obtain ⟨g, cap, cur, hform, -⟩ := ownsRow_form hmod (by omega)
              simp only [Value.slice.injEq] at hform
              obtain ⟨rfl, -, rfl⟩ := hform
              obtain ⟨last, hlast⟩ := getElem?_of_lt (show M.length - 1 < M.length by omega)
              have hci := row_cell hmod hlast
              have hpos : (0 : Int) < (M.length : Int) := by omega
              have HL : Hid (M.getLast? = some last) := by rw [List.getLast?_eq_getElem?]; exact hlast
              clear hlast hn0
              cases hlk : Op.bytesLess last.toList k.toList with
              | true =>
                have HI : Hid (turnB false M k = false) := newInd_lt HL.out hlk
                go_wp2
                go_meet
                exact ⟨rfl, by rw [HI.out]⟩
              | false =>
                cases hek : last.toList == k.toList with
                | true =>
                  have HI : Hid (turnB false M k = false) := newInd_eq HL.out hek
                  go_wp2
                  go_meet
                  exact ⟨rfl, by rw [HI.out]⟩
                | false =>
                  have HI : Hid (turnB false M k = true) := newInd_gt HL.out hlk hek
                  go_wp2
                  go_meet
                  exact ⟨rfl, by rw [HI.out]⟩
        case rest =>
          obtain ⟨rfl, rfl⟩ := hcut
          go_upto_if 68 with fail
          go_cut [6] (fun s6 wx => wr = wx ∧ s6 = .bool (newInd ind M k))
          case first =>
            have HT : Hid (newInd ind M k = (ind || turnB ind M k)) := newInd_turn ind M k
            generalize turnB ind M k = tb at *
            cases tb with
            | true =>
              go_wp2
              go_meet
              exact ⟨rfl, by rw [HT.out]; simp⟩
            | false =>
              go_wp2
              go_meet
              exact ⟨rfl, by rw [HT.out]; simp⟩
          case rest =>
          obtain ⟨rfl, rfl⟩ := hcut
          go_upto_if 70 with fail
          go_cut [10, 4, 5] (fun s10 s4 s5 wx => s10 = .int .i64 (place M k : Nat) ∧ wx.ownsRow (w.heap.size + 1) 9 1 s4 (nextM M k).length ((nextM M k).map Value.string) ∧
            wx.ownsRow (w.heap.size + 1) 3 1 s5 (nextM M k).length ((growC M C k).map fun c : Nat => Value.int .i64 (c : Int)) ∧ Chg (fun i => Value.ownBlock (.slice ma M.length mc) = some i ∨ Value.ownBlock (.slice ca M.length cc) = some i) wr wx)
          case first =>
            by_cases hk : k ∈ M
            · have HJ : Hid (jOf M k = (place M k : Int)) := jOf_yes hk
              have hj0 : 0 ≤ jOf M k := by rw [HJ.out]; omega
              go_wp2
              go_meet
              rw [nextM_yes hk, growC_yes hk]
              exact ⟨by rw [HJ.out], D.mod, D.cnt, Chg.rfl' _ _⟩
            · have HJ : Hid (jOf M k = -1) := jOf_no hk
              have hj0 : jOf M k < 0 := by rw [HJ.out]; omega
              have hsz : w.heap.size + 1 ≤ wr.heap.size := lt_of_block D.bp.blk
              go_wp2_with (first
                | (at_builtin; refine wpList_push1 rfl (.tmp 72) (.tmp 74) 55 rfl (w.heap.size + 1) 9 (.string ⟨#[]⟩) 16 Yba.info9 rfl Yba.underlying55 (.slice ma M.length mc) M.length _ rfl (D.mod.alloc _) wr.heap.size (.string k) rfl (heap_alloc_new wr _) rfl (by omega) (by omega) (by simp; omega) ?_; intro g1 cap1 w1 hown1 hchg1 hloc1; have hcnt1 := hchg1.ownsRow (D.cnt.alloc _) (apart_rows D.cnt D.mod (by decide)); have hsz1 := hchg1.size)
                | (at_builtin; refine wpList_push1 rfl (.tmp 76) (.tmp 77) 56 rfl (w.heap.size + 1) 3 (.int .i64 0) 8 Yba.info3 rfl Yba.underlying56 (.slice ca M.length cc) M.length _ rfl (hcnt1.alloc _) w1.heap.size (.int .i64 0) rfl (heap_alloc_new w1 _) rfl (by omega) (by omega) (by simp at hsz1 ⊢; omega) ?_; intro g2 cap2 w2 hown2 hchg2 hloc2))
              go_meet
              rw [nextM_no hk, growC_no hk]
              refine ⟨by rw [place_not M k hk], ?_, ?_, ?_⟩
              · have := hchg2.ownsRow (hown1.alloc _) (apart_rows hown1 hcnt1 (by decide))
                simpa using this
              · simpa using hown2
              · exact (((Chg.alloc _ _ _).trans (hchg1.mono (fun i hi => Or.inl hi))).trans (Chg.alloc _ _ _)).trans (hchg2.mono (fun i hi => Or.inr hi))
          case rest =>
            obtain ⟨rfl, hmodx, hcntx, hchgx⟩ := hcut
            have hpl : place M k < (nextM M k).length := by
              by_cases hk : k ∈ M
              · rw [nextM_yes hk]; exact place_lt hk
              · rw [nextM_no hk, place_not M k hk]; simp
            obtain ⟨gm, capm, curm, rfl, -⟩ := ownsRow_form hmodx (by omega)
            obtain ⟨gc, capc, curc, rfl, -⟩ := ownsRow_form hcntx (by omega)
            have hgl : (growC M C k).length = (nextM M k).length := by
              by_cases hk : k ∈ M
              · rw [nextM_yes hk, growC_yes hk]; exact D.pp.clen
              · rw [nextM_no hk, growC_no hk]; simp [D.pp.clen]
            obtain ⟨cj, hcj⟩ := getElem?_of_lt (show place M k < (growC M C k).length by omega)
            have hcc := row_cell hcntx hcj
            have hcf := ownsRow_free hcntx (place M k)
            have hcjt : cj ≤ t := by
              have hmem := List.mem_of_getElem? hcj
              by_cases hk : k ∈ M
              · rw [growC_yes hk] at hmem; exact D.pp.cb _ hmem
              · rw [growC_no hk] at hmem
                rcases List.mem_append.1 hmem with h | h
                · exact D.pp.cb _ h
                · simp at h; omega
            have hnl : (nextM M k).length ≤ 1024 := by
              have := D.pp.mlen
              by_cases hk : k ∈ M
              · rw [nextM_yes hk]; omega
              · rw [nextM_no hk]; simp; omega
            go_upto_region 25 with fail
            have hcnt3 := ownsRow_set hcntx (place M k) (by simp; omega) (.int .i64 ((cj : Int) + 1))
            have hmod3 := (Chg.setCell (fun i => i = gc) wc ⟨gc, place M k, none⟩ (.int .i64 ((cj : Int) + 1)) rfl).ownsRow hmodx (by intro i hi e; exact apart_rows hmodx hcntx (by decide) i hi (by rw [e]; rfl))
            have hbp3 : BP w (wc.setCell ⟨gc, place M k, none⟩ (.int .i64 ((cj : Int) + 1))) w.heap.size M C ev vs ix := by
              have hbc := D.bp.kept hchgx (fun i hi => by
                rcases hi with hi | hi
                · exact Off.row D.mod (Or.inl rfl) hi
                · exact Off.row D.cnt (Or.inr rfl) hi)
              exact hbc.kept (Chg.setCell (fun i => i = gc) wc ⟨gc, place M k, none⟩ (.int .i64 ((cj : Int) + 1)) rfl) (fun i hi => by subst hi; exact Off.row hcntx (Or.inr rfl) rfl)
            have HCJ : Hid ((growC M C k)[place M k]? = some cj) := hcj
            clear hcc hcf hmodx hcntx hchgx hcj
            generalize wc.setCell ⟨gc, place M k, none⟩ (.int .i64 ((cj : Int) + 1)) = w3 at *
            obtain ⟨kc, w4, hcv4, hchg4, hsz4, hback⟩ := conv_bytes k w3
            have hbp4 := hbp3.kept hchg4 (fun i hi => hi.elim)
            have hmod4 := hchg4.ownsRow hmod3 (fun _ _ h => h)
            have hcnt4 := hchg4.ownsRow hcnt3 (fun _ _ h => h)
            have hbb3 : w.heap.size < w3.heap.size := lt_of_block hbp3.blk
            have hvs : ∀ v ∈ vs, ∃ a l c, v = .slice a l c := by
              intro v hv
              obtain ⟨i, hi⟩ := List.mem_iff_getElem?.1 hv
              obtain ⟨c, hc⟩ := getElem?_of_lt (show i < C.length by rw [D.pp.clen, ← D.pp.vlen]; exact lt_of_getElem? hi)
              obtain ⟨xs, hxs⟩ := hbp3.vals i v c hi hc
              obtain ⟨a, c', rfl⟩ := ownsRow_len hxs
              exact ⟨_, _, _, rfl⟩
            have hentry := entry_any w.heap.size w3.heap.size k.size kc (some ⟨w3.heap.size, 0, none⟩) k w4 ev vs M ix hmn D.pp.nodup D.pp.sorted D.pp.vlen hvs D.pp.evM D.pp.ixM hbp4.blk hbp4.own hbp4.hix hsz4 (by omega) hback
            rw [D.pp.ixs] at hentry
            have HE : Hid _ := hentry
            clear hentry hback hvs
            go_wp2_with fail
            refine Calls.mono HE.out ?_
            intro e w5 hpost
            obtain ⟨g', cap', ix', rfl, hix', hchg5, hbp5⟩ := ent_next D.pp hbp4 (Nat.le_of_lt (lt_of_block hbp4.blk)) hpost
            have hmod5 := hchg5.ownsRow hmod4 (hbp4.other hmod4 (by decide) (by decide))
            have hcnt5 := hchg5.ownsRow hcnt4 (hbp4.other hcnt4 (by decide) (by decide))
            have hvl5 : (growV M vs k).length = (nextM M k).length := by
              by_cases hk : k ∈ M
              · rw [nextM_yes hk, growV_yes hk]; exact D.pp.vlen
              · rw [nextM_no hk, growV_no hk]; simp [D.pp.vlen]
            have hvd5 := growV_dis D.pp k
            obtain ⟨vj, hvj⟩ := getElem?_of_lt (show place M k < (growV M vs k).length by omega)
            obtain ⟨xj, hxj⟩ := hbp5.vals (place M k) vj cj hvj HCJ.out
            obtain ⟨va, vc, rfl⟩ := ownsRow_len hxj
            obtain ⟨q0, q1, q2, q3⟩ := entCells_at (nextM M k) (growV M vs k) (place M k) k _ (nextM_at M k) hvj
            have e0 := ownsRow_cell hbp5.own q0
            have e1 := ownsRow_cell hbp5.own q1
            have c0 : w5.cell? ⟨w.heap.size, 0, none⟩ = some (.slice (some ⟨g', 0, none⟩) (nextM M k).length cap') := by rw [cell_of_row w5 _ 0 _ _ _ hbp5.blk]; rfl
            have HVJ : Hid ((growV M vs k)[place M k]? = some (.slice va cj vc)) := hvj
            have HPP : Hid (∀ v' : Value, (∀ g, v'.ownBlock = some g → (∃ v, (growV M vs k)[place M k]? = some v ∧ v.ownBlock = some g) ∨ (∀ (i : Nat) v, (growV M vs k)[i]? = some v → v.ownBlock ≠ some g)) →
                PP (t + 1) (newInd ind M k) (nextM M k) (nextC M C k) (.slice (some ⟨g', 0, none⟩) (nextM M k).length cap') ((growV M vs k).set (place M k) v') ix') := fun v' hv' => D.pp.next k hix' hv'
            clear hpost HE hbp4 hbp3 hmod4 hcnt4 hmod3 hcnt3 hchg4 hsz4 hcv4 q0 q1 q2 q3 hvj
            generalize newInd ind M k = nb at *
            subst hix'
            have hnp : ∀ (W : World) (i j : Nat), (binOp .neq 58 (.pointer (some ⟨g', i, none⟩)) (.pointer (some ⟨g', j, none⟩))).run Yba.prog W = .ok (.bool (!(i == j))) W := fun W i j => run_nePtr_block W 58 61 3 Yba.underlying58 (by kernel_rfl) g' i j
            have hmn2 : ∀ (W : World) (r : Option Nat), (binOp .neq 52 (.map r) (.map none)).run Yba.prog W = .ok (.bool (!r.isNone)) W := fun W r => run_neq_map_nil W _ _ _ r Yba.underlying52
            have hbb5 : w.heap.size < w5.heap.size := lt_of_block hbp5.blk
            have hpn := fun (v' : Value) (w6 : World) (xs' : List Value) (hpush : w6.ownsRow (w.heap.size + 1) 30 1 v' (cj + 1) xs') (hchg : Chg (fun i => Value.ownBlock (.slice va cj vc) = some i) w5 w6) => push_next hbp5 rfl hvl5 hvd5 HVJ.out HCJ.out hpush hchg hbb5
            have HPN : Hid _ := hpn
            clear hpn
            go_wp2_with (at_builtin; refine wpList_push1 rfl (.tmp 110) (.tmp 111) 27 rfl (w.heap.size + 1) 30 (.slice none 0 0) 24 Yba.info30 rfl Yba.underlying27 (.slice va cj vc) cj xj rfl (hxj.alloc _) w5.heap.size (.slice none 0 0) rfl (heap_alloc_new w5 _) rfl (by omega) (by omega) (by simp; omega) ?_; intro g6 cap6 w6 hown6 hchg6 hloc6; have hchg6' := (Chg.alloc _ w5 _).trans hchg6; obtain ⟨f1, f2, f3⟩ := push_facts hbp5 hxj hchg6' e1)
            go_roundg (len0 - (t + 1))
            case measure => omega
            case rel =>
              refine ⟨t + 1, _, nextM M k, nextC M C k, _, (growV M vs k).set (place M k) (.slice (some ⟨g6, 0, none⟩) (cj + 1) cap6), ix', by omega, by go_num, rfl, HPN.out _ w6 _ hown6 hchg6', HPP.out _ ?_, kept6 hbp5.own hxj hchg6' hmod5 (by decide) (by decide) _ _, ?_⟩
              · intro g hg
                simp only [Value.ownBlock, Option.some.injEq] at hg
                subst hg
                rcases hloc6 with h | h
                · exact Or.inl ⟨_, HVJ.out, h⟩
                · right
                  intro i v hv e
                  obtain ⟨c, hc⟩ := getElem?_of_lt (show i < (growC M C k).length by rw [hgl, ← hvl5]; exact lt_of_getElem? hv)
                  obtain ⟨xs, hxs⟩ := hbp5.vals i v c hv hc
                  have := (hxs.lt _ e).2
                  simp at h
                  omega
              · rw [nextC, nextC_map HCJ.out]
                exact kept6 hbp5.own hxj hchg6' hcnt5 (by decide) (by decide) _ _
    · obtain rfl : t = len0 := by omega
      have hmn : M.length ≤ 1024 := by have := D.pp.mlen; omega
      obtain ⟨ma, mc, hmv⟩ := ownsRow_len D.mod
      obtain ⟨ca, cc, hcv⟩ := ownsRow_len D.cnt
      subst hmv hcv
      have c1 : wr.cell? ⟨w.heap.size, 1, none⟩ = some (.int .i64 0) := by rw [cell_of_row wr _ 1 _ _ _ D.bp.blk]; rfl
      have hmn2 : ∀ (W : World) (r : Option Nat), (binOp .neq 52 (.map r) (.map none)).run Yba.prog W = .ok (.bool (!r.isNone)) W := fun W r => run_neq_map_nil W _ _ _ r Yba.underlying52
      have c2 : wr.cell? ⟨w.heap.size, 2, none⟩ = some (.map ix) := by rw [cell_of_row wr _ 2 _ _ _ D.bp.blk]; rfl
      by_cases hn0 : M.length = 0
      · obtain rfl : M = [] := List.eq_nil_of_length_eq_zero hn0
        obtain rfl : ix = none := by cases hx : ix with | none => rfl | some _ => exact absurd rfl (D.pp.ixM (by rw [hx]; simp))
        clear hn0
        go_wp2
        refine wp_loop_rounds 1 ?_
        rw [rounds_succ]
        go_wp2
        go_ret
        exact ⟨rfl, D.bp.below⟩
      · obtain ⟨gm, capm, curm, hform, hgm, hrm, -⟩ := ownsRow_form D.mod (by omega)
        simp only [Value.slice.injEq] at hform
        obtain ⟨rfl, -, rfl⟩ := hform
        obtain ⟨gc, capc, curc, hform, hgc, hrc, -⟩ := ownsRow_form D.cnt (by omega)
        simp only [Value.slice.injEq] at hform
        obtain ⟨rfl, -, rfl⟩ := hform
        obtain ⟨ge, cape, cure, rfl, hge, hre, -⟩ := ownsRow_form D.bp.own (by omega)
        have HD : Hid (DS w wr w.heap.size t (.slice (some ⟨gm, 0, none⟩) M.length mc) (.slice (some ⟨gc, 0, none⟩) M.length cc) ind M C (.slice (some ⟨ge, 0, none⟩) M.length cape) vs ix) := D
        clear D hgm hrm hgc hrc hge hre hn0
        go_wp2
        go_loopg [14] M.length (fun gk s14 wx => ∃ i : Nat, s14 = .int .i64 i ∧ gk + i = M.length ∧ Chg (fun _ => False) wr wx)
        case atStart => exact ⟨0, rfl, rfl, Chg.rfl' _ _⟩
        case round =>
          rename World => wx
          obtain ⟨i, rfl, hgi, hcx⟩ := hrel
          have bpx := HD.out.bp.kept hcx (fun _ h => h.elim)
          have modx := hcx.ownsRow HD.out.mod (fun _ _ h => h)
          have cntx := hcx.ownsRow HD.out.cnt (fun _ _ h => h)
          have hb0 := lt_of_block bpx.blk
          have hbm := (modx.lt gm rfl).2
          have hbc := (cntx.lt gc rfl).2
          have hbe := (bpx.own.lt ge rfl).2
          have d0 : wx.cell? ⟨w.heap.size, 0, none⟩ = some (.slice (some ⟨ge, 0, none⟩) M.length cape) := by rw [cell_of_row wx _ 0 _ _ _ bpx.blk]; rfl
          have d2 : wx.cell? ⟨w.heap.size, 2, none⟩ = some (.map ix) := by rw [cell_of_row wx _ 2 _ _ _ bpx.blk]; rfl
          by_cases hil : i < M.length
          · obtain ⟨mi, hmi⟩ := getElem?_of_lt hil
            obtain ⟨ci, hci⟩ := getElem?_of_lt (show i < C.length by rw [HD.out.pp.clen]; exact hil)
            obtain ⟨vi, hvi⟩ := getElem?_of_lt (show i < vs.length by rw [HD.out.pp.vlen]; exact hil)
            obtain ⟨xi, hxi⟩ := bpx.vals i vi ci hvi hci
            obtain ⟨va, vc, rfl⟩ := ownsRow_len hxi
            have m0 := row_cell modx hmi
            have k0 := row_cell cntx hci
            obtain ⟨q0, q1, q2, q3⟩ := entCells_at M vs i mi _ hmi hvi
            have e0 := ownsRow_cell bpx.own q0
            have e1 := ownsRow_cell bpx.own q1
            have e2 := ownsRow_cell bpx.own q2
            have e3 := ownsRow_cell bpx.own q3
            have hcib : ci ≤ 1024 := by have := HD.out.pp.cb ci (List.mem_of_getElem? hci); omega
            have hlook : ∀ im, ix = some im → ∀ o N, (Instr.lookup 52 (.map (some im)) (.string mi) true).run Yba.prog ((wx.alloc o).drewN N) = .ok (.tuple #[.int .i64 i, .bool true]) ((wx.alloc o).drewN N) := by
              intro im him o N
              have hm := (((bpx.hix im him).1.kept (Chg.alloc (fun _ => False) wx o) (fun h => h))).kept (Chg.drewN (fun _ => False) _ N) (fun h => h)
              have := idxFrom_mem M 0 i mi hmi
              rw [Nat.zero_add] at this
              exact hm.look_hit (stringKey Yba.underlying9) Yba.underlying52 mi (.int .i64 i) (by rw [idxFrom_keys]; exact HD.out.pp.nodup) this true
            clear bpx modx cntx hxi q0 q1 q2 q3 hmi hci hvi
            cases ix with
            | none =>
              clear hlook
              go_wp2
              go_quiet (fail)
              go_wp2
              go_roundg (M.length - (i + 1))
              case measure => omega
              case rel => exact ⟨i + 1, by go_num, by omega, hcx.trans ((Chg.alloc _ _ _).trans (Chg.drewN _ _ _))⟩
            | some im =>
              have hl := hlook im rfl
              clear hlook
              go_wp2
              go_quiet (fail)
              go_wp2
              have hl2 := fun o N => hl o (nq + N)
              clear hl
              go_quiet (fail)
              go_wp2
              go_roundg (M.length - (i + 1))
              case measure => omega
              case rel => exact ⟨i + 1, by go_num, by omega, hcx.trans ((Chg.alloc _ _ _).trans (Chg.drewN _ _ _))⟩
          · obtain rfl : i = M.length := by omega
            have hbel := bpx.below
            cases ix with
            | none =>
              go_wp2
              go_ret
              exact ⟨rfl, hbel⟩
            | some im =>
              have hlen2 : (Builtin.len_ #[52] 3 #[.map (some im)]).run Yba.prog wx = .ok (.int .i64 (M.length : Nat)) wx := by
                have := (bpx.hix im rfl).1.len (P := Yba.prog) Yba.underlying52 3
                rwa [idxFrom_length] at this
              clear bpx modx cntx
              go_wp2
              go_ret
              exact ⟨rfl, hbel⟩
end Go.Proofs.Ybulkamoo
