/-
  OUR OWN. b1922a: the leaves: span.len (6), Pattern.str (7), word (8), zzs1922cword (5), walked.
-/
import Derived.Test.YbulkamtyKit
import Derived.Test.YbulkamtyChecked
import Derived.Below
import Derived.BigRegion
import Derived.Laws.Rows
import Derived.BigQuiet
import Derived.Lib.EndianBits
import Derived.Deep.DeepCutAuto
import Derived.Deep.CutBlock
import Derived.Deep.LoopGhost
namespace Go.Proofs.Ybulkamty
open Go.RowKit
set_option linter.unusedVariables false
set_option linter.unusedSimpArgs false
/-- The i-th byte of a string, as a number. -/
def bt (S : ByteArray) (i : Nat) : Int := ((S.data[i]?).getD 0).toNat
theorem bt_of (S : ByteArray) (i : Nat) (h : i < S.size) : bt S i = (S[i]).toNat := by
  unfold bt; rw [Array.getElem?_eq_getElem h]; rfl
theorem bt_extract (S : ByteArray) (a b i : Nat) (hb : b ≤ S.size) (hi : a + i < b) : bt (S.extract a b) i = bt S (a + i) := by
  unfold bt
  rw [ByteArray.data_extract, Array.getElem?_extract, if_pos]
  have : S.data.size = S.size := rfl
  omega
theorem bt_in (S : ByteArray) (i : Nat) : 0 ≤ bt S i ∧ bt S i ≤ 255 := by
  unfold bt
  have := ((S.data[i]?).getD 0).toNat_lt
  omega
/-- Eight bytes as a word, the first the lowest. -/
def w8 (b : Nat → Int) : Int := b 0 + b 1 * 256 + b 2 * 65536 + b 3 * 16777216 + b 4 * 4294967296 + b 5 * 1099511627776 + b 6 * 281474976710656 + b 7 * 72057594037927936
theorem word_num (b0 b1 b2 b3 b4 b5 b6 b7 : Nat) (h0 : b0 < 256) (h1 : b1 < 256) (h2 : b2 < 256) (h3 : b3 < 256) (h4 : b4 < 256) (h5 : b5 < 256) (h6 : b6 < 256) (h7 : b7 < 256) :
    bits .or .u64 (bits .or .u64 (bits .or .u64 (bits .or .u64 (bits .or .u64 (bits .or .u64 (bits .or .u64 (IntKind.u64.wrap b0) (IntKind.u64.wrap (IntKind.u64.wrap b1 * 256))) (IntKind.u64.wrap (IntKind.u64.wrap b2 * 65536))) (IntKind.u64.wrap (IntKind.u64.wrap b3 * 16777216))) (IntKind.u64.wrap (IntKind.u64.wrap b4 * 4294967296))) (IntKind.u64.wrap (IntKind.u64.wrap b5 * 1099511627776))) (IntKind.u64.wrap (IntKind.u64.wrap b6 * 281474976710656))) (IntKind.u64.wrap (IntKind.u64.wrap b7 * 72057594037927936))
      = (b0 : Int) + b1 * 256 + b2 * 65536 + b3 * 16777216 + b4 * 4294967296 + b5 * 1099511627776 + b6 * 281474976710656 + b7 * 72057594037927936 := by
  rw [u64_wrap_id b0 (by omega) (by omega), u64_wrap_id b1 (by omega) (by omega), u64_wrap_id b2 (by omega) (by omega), u64_wrap_id b3 (by omega) (by omega), u64_wrap_id b4 (by omega) (by omega), u64_wrap_id b5 (by omega) (by omega), u64_wrap_id b6 (by omega) (by omega), u64_wrap_id b7 (by omega) (by omega)]
  rw [u64_wrap_id (b1 * 256) (by omega) (by omega), u64_wrap_id (b2 * 65536) (by omega) (by omega), u64_wrap_id (b3 * 16777216) (by omega) (by omega), u64_wrap_id (b4 * 4294967296) (by omega) (by omega), u64_wrap_id (b5 * 1099511627776) (by omega) (by omega), u64_wrap_id (b6 * 281474976710656) (by omega) (by omega), u64_wrap_id (b7 * 72057594037927936) (by omega) (by omega)]
  rw [u64_or8 ((b0 : Int)) (b1 * 256) (by omega) (by omega) (by omega) (by omega) (by omega), u64_or16 ((b0 : Int) + b1 * 256) (b2 * 65536) (by omega) (by omega) (by omega) (by omega) (by omega), u64_or24 ((b0 : Int) + b1 * 256 + b2 * 65536) (b3 * 16777216) (by omega) (by omega) (by omega) (by omega) (by omega), u64_or32 ((b0 : Int) + b1 * 256 + b2 * 65536 + b3 * 16777216) (b4 * 4294967296) (by omega) (by omega) (by omega) (by omega) (by omega), u64_or40 ((b0 : Int) + b1 * 256 + b2 * 65536 + b3 * 16777216 + b4 * 4294967296) (b5 * 1099511627776) (by omega) (by omega) (by omega) (by omega) (by omega), u64_or48 ((b0 : Int) + b1 * 256 + b2 * 65536 + b3 * 16777216 + b4 * 4294967296 + b5 * 1099511627776) (b6 * 281474976710656) (by omega) (by omega) (by omega) (by omega) (by omega), u64_or56 ((b0 : Int) + b1 * 256 + b2 * 65536 + b3 * 16777216 + b4 * 4294967296 + b5 * 1099511627776 + b6 * 281474976710656) (b7 * 72057594037927936) (by omega) (by omega) (by omega) (by omega) (by omega)]
theorem or_comm64 (x y : Int) : bits .or .u64 x y = bits .or .u64 y x := by
  show IntKind.u64.wrap ((BitVec.ofInt 64 x ||| BitVec.ofInt 64 y).toNat : Int) = IntKind.u64.wrap ((BitVec.ofInt 64 y ||| BitVec.ofInt 64 x).toNat : Int)
  rw [BitVec.or_comm]
def acc (T : Nat → Int) : Nat → Int
  | 0 => 0
  | k + 1 => acc T k * 256 + T (7 - k)
theorem acc_in (T : Nat → Int) (hT : ∀ i, i < 8 → 0 ≤ T i ∧ T i ≤ 255) : ∀ k, k ≤ 7 → 0 ≤ acc T k ∧ acc T k < 72057594037927936 := by
  have h0 := hT 0 (by omega); have h1 := hT 1 (by omega); have h2 := hT 2 (by omega); have h3 := hT 3 (by omega); have h4 := hT 4 (by omega); have h5 := hT 5 (by omega); have h6 := hT 6 (by omega); have h7 := hT 7 (by omega)
  intro k hk
  match k, hk with
  | 0, _ => simp only [acc, Nat.reduceSub]; omega
  | 1, _ => simp only [acc, Nat.reduceSub]; omega
  | 2, _ => simp only [acc, Nat.reduceSub]; omega
  | 3, _ => simp only [acc, Nat.reduceSub]; omega
  | 4, _ => simp only [acc, Nat.reduceSub]; omega
  | 5, _ => simp only [acc, Nat.reduceSub]; omega
  | 6, _ => simp only [acc, Nat.reduceSub]; omega
  | 7, _ => simp only [acc, Nat.reduceSub]; omega
theorem acc_end (T : Nat → Int) : acc T 8 = w8 T := by
  simp only [acc, w8, Nat.reduceSub]; omega
theorem acc_step (T : Nat → Int) (hT : ∀ i, i < 8 → 0 ≤ T i ∧ T i ≤ 255) (k : Nat) (hk : k ≤ 7) : bits .or .u64 (IntKind.u64.wrap (acc T k * 256)) (T (7 - k)) = acc T (k + 1) := by
  have hb := acc_in T hT k hk
  have ht := hT (7 - k) (by omega)
  rw [u64_wrap_id _ (by omega) (by omega), or_comm64, u64_or8 _ _ (by omega) (by omega) (by omega) (by omega) (by omega)]
  simp only [acc]
  omega
set_option maxRecDepth 20000 in
theorem len_walk (a b : Int) (ha : 0 ≤ a ∧ a ≤ 100000) (hb : 0 ≤ b ∧ b ≤ 100000) (w : World) :
    Calls Yba.prog 6 #[.agg #[.int .i32 a, .int .i32 b]] w fun e w' => e = .returned (.int .i64 (b - a)) ∧ Chg (fun _ => False) w w' := by
  go_enter Yba.func6, Yba.ntmps6
  go_wp2
  go_ret
  exact ⟨rfl, Chg.alloc _ _ _⟩
set_option maxRecDepth 20000 in
theorem str_walk (pb a b : Nat) (S : ByteArray) (w : World) (hab : a ≤ b) (hb : b ≤ S.size) (hS : S.size ≤ 100000) (hc : w.cell? ⟨pb, 0, none⟩ = some (.string S)) :
    Calls Yba.prog 7 #[.pointer (some ⟨pb, 0, none⟩), .agg #[.int .i32 a, .int .i32 b]] w fun e w' => e = .returned (.string (S.extract a b)) ∧ Chg (fun _ => False) w w' := by
  have hpb : pb < w.heap.size := block_lt_of_cell hc
  go_enter Yba.func7, Yba.ntmps7
  go_wp2_with fail
  go_quiet (fail)
  go_wp2
  go_ret
  exact ⟨rfl, (Chg.alloc _ _ _).trans (Chg.drewN _ _ _)⟩
set_option maxRecDepth 20000 in
theorem word_walk (S : ByteArray) (h8 : 8 ≤ S.size) (hS : S.size ≤ 100000) (w : World) :
    Calls Yba.prog 8 #[.string S] w fun e w' => e = .returned (.int .u64 (w8 (bt S))) ∧ ∃ N, w' = w.drewN N := by
  have i0 : (0 : Int) < (S.size : Int) := by omega
  have j0 : 0 < S.size := by omega
  have i1 : (1 : Int) < (S.size : Int) := by omega
  have j1 : 1 < S.size := by omega
  have i2 : (2 : Int) < (S.size : Int) := by omega
  have j2 : 2 < S.size := by omega
  have i3 : (3 : Int) < (S.size : Int) := by omega
  have j3 : 3 < S.size := by omega
  have i4 : (4 : Int) < (S.size : Int) := by omega
  have j4 : 4 < S.size := by omega
  have i5 : (5 : Int) < (S.size : Int) := by omega
  have j5 : 5 < S.size := by omega
  have i6 : (6 : Int) < (S.size : Int) := by omega
  have j6 : 6 < S.size := by omega
  have i7 : (7 : Int) < (S.size : Int) := by omega
  have j7 : 7 < S.size := by omega
  go_enter Yba.func8, Yba.ntmps8
  go_wp2_with fail
  go_quiet (fail)
  go_wp2
  go_ret
  refine ⟨?_, nq, rfl⟩
  have e := word_num S[0].toNat S[1].toNat S[2].toNat S[3].toNat S[4].toNat S[5].toNat S[6].toNat S[7].toNat (S[0].toNat_lt) (S[1].toNat_lt) (S[2].toNat_lt) (S[3].toNat_lt) (S[4].toNat_lt) (S[5].toNat_lt) (S[6].toNat_lt) (S[7].toNat_lt)
  refine congrArg (fun x => Ending.returned (Value.int .u64 x)) (e.trans ?_)
  simp only [w8, bt_of S 0 j0, bt_of S 1 j1, bt_of S 2 j2, bt_of S 3 j3, bt_of S 4 j4, bt_of S 5 j5, bt_of S 6 j6, bt_of S 7 j7]
set_option maxRecDepth 20000 in
theorem zzw_walk (g at_ n cap : Nat) (T : Nat → Int) (w : World) (hn : n ≤ 100000) (hat : at_ + 8 ≤ n) (hT : ∀ i, i < 8 → w.cell? ⟨g, at_ + i, none⟩ = some (.int .u8 (T i)) ∧ 0 ≤ T i ∧ T i ≤ 255) :
    Calls Yba.prog 5 #[.slice (some ⟨g, 0, none⟩) n cap, .int .i64 at_] w fun e w' => e = .returned (.int .u64 (w8 T)) ∧ w' = w := by
  have hb : ∀ i, i < 8 → 0 ≤ T i ∧ T i ≤ 255 := fun i hi => (hT i hi).2
  go_enter Yba.func5, Yba.ntmps5
  go_wp2_with fail
  go_loopg [5, 6] 8 (fun gk s5 s6 wr => ∃ t : Nat, gk = t ∧ t ≤ 8 ∧ s5 = .int .u64 (acc T (8 - t)) ∧ s6 = .int .i64 ((t : Int) - 1) ∧ wr = w)
  case atStart => exact ⟨8, rfl, by omega, rfl, rfl, rfl⟩
  case round =>
    obtain ⟨t, hgt, ht, rfl, rfl, rfl⟩ := hrel
    cases t with
    | zero =>
      go_wp2
      go_ret
      exact ⟨by rw [← acc_end]; rfl, rfl⟩
    | succ j =>
      obtain ⟨hc, hc1, hc2⟩ := hT j (by omega)
      rw [show ((j + 1 : Nat) : Int) - 1 = (j : Int) by omega]
      have hst := acc_step T hb (8 - (j + 1)) (by omega)
      rw [show 7 - (8 - (j + 1)) = j by omega, show 8 - (j + 1) + 1 = 8 - j by omega] at hst
      generalize acc T (8 - (j + 1)) = v at *
      go_wp2
      go_roundg j
      case measure => omega
      case rel => exact ⟨j, rfl, by omega, rfl, rfl, rfl⟩
end Go.Proofs.Ybulkamty
