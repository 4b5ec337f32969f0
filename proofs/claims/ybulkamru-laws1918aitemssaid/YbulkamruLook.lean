/-
  OUR OWN. LawS1918AItems: the law's own reckoning ('zzs1918ainuse') and the closure that asks the map, walked.
-/
import Derived.Test.YbulkamruBase
import Derived.Test.YbulkamruLocks
import Derived.Test.YbulkamruChecked
import Derived.Conc.MuLone
import Derived.Below
import Derived.Deep.DeepCutAuto
import Derived.Deep.CutBlock
namespace Go.Proofs.Ybulkamru
open Go.RowKit
set_option linter.unusedVariables false
set_option linter.unusedSimpArgs false

theorem toList_inj {a b : ByteArray} (h : a.toList = b.toList) : a = b := by
  rw [ByteArray.toList_eq, ByteArray.toList_eq] at h
  exact WideShapes.bytes_inj h

/-! ### what the law's own reckoning says, over the first t of the stored ids -/
def found (st : Nat → ByteArray) (id : ByteArray) : Nat → Bool
  | 0 => false
  | t + 1 => if st t = id then true else found st id t
def inuse (st : Nat → ByteArray) (nl : Nat → Bool) (id : ByteArray) : Nat → Bool
  | 0 => false
  | t + 1 => if st t = id then !nl t else inuse st nl id t
theorem found_and (st : Nat → ByteArray) (nl : Nat → Bool) (id : ByteArray) : ∀ t, (found st id t && inuse st nl id t) = inuse st nl id t
  | 0 => rfl
  | t + 1 => by
    unfold found inuse
    by_cases h : st t = id
    · simp [h]
    · simp only [if_neg h]; exact found_and st nl id t

set_option maxRecDepth 20000 in
set_option maxHeartbeats 800000 in
theorem inuse_walk (a1 : Option Addr) (len1 cap1 : Nat) (a2 : Option Addr) (len2 cap2 : Nat) (st : Nat → ByteArray) (ni : Nat → Bool) (id : ByteArray) (w : World) (h1 : len1 ≤ 1024) (h2 : len2 ≤ 1024)
    (hs : ∀ i, i < len1 → ∃ b off, a1 = some ⟨b, off, none⟩ ∧ w.cell? ⟨b, off + i, none⟩ = some (.string (st i)))
    (hn : ∀ i, i < len2 → ∃ b off, a2 = some ⟨b, off, none⟩ ∧ w.cell? ⟨b, off + i, none⟩ = some (.bool (ni i))) :
    Calls Yba.prog 5 #[.slice a1 len1 cap1, .slice a2 len2 cap2, .string id] w fun e w' => e = .returned (.bool (inuse st (fun i => decide (i < len2) && ni i) id len1)) ∧ w = w' := by
  have HS : Hid (∀ i, i < len1 → ∃ b off, a1 = some ⟨b, off, none⟩ ∧ w.cell? ⟨b, off + i, none⟩ = some (.string (st i))) := hs
  have HN : Hid (∀ i, i < len2 → ∃ b off, a2 = some ⟨b, off, none⟩ ∧ w.cell? ⟨b, off + i, none⟩ = some (.bool (ni i))) := hn
  clear hs hn
  go_enter Yba.func5, Yba.ntmps5
  go_wp2
  go_loopg [7, 8, 9] len1 (fun gk f n i wr => ∃ t : Nat, gk + t = len1 ∧ f = .bool (found st id t) ∧ n = .bool (inuse st (fun i => decide (i < len2) && ni i) id t) ∧ i = .int .i64 t ∧ w = wr)
  case atStart => exact ⟨0, rfl, rfl, rfl, rfl, rfl⟩
  case round =>
    obtain ⟨t, hgt, rfl, rfl, rfl, rfl⟩ := hrel
    by_cases hlt : t < len1
    · obtain ⟨b, off, rfl, hc⟩ := HS.out t hlt
      by_cases he : st t = id
      · have e1 : found st id (t + 1) = true := by simp [found, he]
        have e2 : inuse st (fun i => decide (i < len2) && ni i) id (t + 1) = !(decide (t < len2) && ni t) := by simp [inuse, he]
        have HE1 : Hid (found st id (t + 1) = true) := e1
        have HE2 : Hid (inuse st (fun i => decide (i < len2) && ni i) id (t + 1) = !(decide (t < len2) && ni t)) := e2
        clear e1 e2
        rw [he] at hc
        by_cases hl2 : t < len2
        · obtain ⟨b2, off2, rfl, hc2⟩ := HN.out t hl2
          go_wp2
          go_roundg (len1 - (t + 1))
          case measure => omega
          case rel => exact ⟨t + 1, by omega, by rw [HE1.out], by rw [HE2.out]; simp [hl2], by go_num, rfl⟩
        · go_wp2
          go_roundg (len1 - (t + 1))
          case measure => omega
          case rel => exact ⟨t + 1, by omega, by rw [HE1.out], by rw [HE2.out]; simp [hl2], by go_num, rfl⟩
      · have hb : ((st t).toList == id.toList) = false := by rw [beq_eq_false_iff_ne]; exact fun e => he (toList_inj e)
        have e1 : found st id (t + 1) = found st id t := by simp [found, he]
        have e2 : inuse st (fun i => decide (i < len2) && ni i) id (t + 1) = inuse st (fun i => decide (i < len2) && ni i) id t := by simp [inuse, he]
        have HE1 : Hid (found st id (t + 1) = found st id t) := e1
        have HE2 : Hid (inuse st (fun i => decide (i < len2) && ni i) id (t + 1) = inuse st (fun i => decide (i < len2) && ni i) id t) := e2
        clear e1 e2
        go_wp2
        go_roundg (len1 - (t + 1))
        case measure => omega
        case rel => exact ⟨t + 1, by omega, by rw [HE1.out], by rw [HE2.out], by go_num, rfl⟩
    · obtain rfl : t = len1 := by omega
      have hf := found_and st (fun i => decide (i < len2) && ni i) id t
      have HF : Hid ((found st id t && inuse st (fun i => decide (i < len2) && ni i) id t) = inuse st (fun i => decide (i < len2) && ni i) id t) := hf
      clear hf
      by_cases hff : found st id t = true
      · go_wp2
        go_ret
        refine ⟨?_, rfl⟩
        have := HF.out
        rw [hff] at this
        simp
      · go_wp2
        go_ret
        refine ⟨?_, rfl⟩
        have := HF.out
        simp [hff] at this
        simp [this]

def inUse : ByteArray := { data := #[105, 110, 32, 117, 115, 101] }
def reason (u : Bool) : ByteArray := if u then { data := #[105, 110, 32, 117, 115, 101] } else { data := #[] }

/-- The closure: what the map says of the id. -/
theorem look_no (vb pb mb : Nat) (id : ByteArray) (w : World) (c0 : w.cell? ⟨vb, 0, none⟩ = some (.pointer (some ⟨pb, 0, none⟩))) (c1 : w.cell? ⟨pb, 2, none⟩ = some (.map (some mb)))
    (hl : (Instr.lookup 24 (.map (some mb)) (.string id) false).run Yba.prog w = .ok (.pointer none) w) :
    Calls Yba.prog 9 #[.string id, .pointer (some ⟨vb, 0, none⟩)] w fun e w' => e = .returned (.string { data := #[] }) ∧ w = w' := by
  go_enter Yba.func9, Yba.ntmps9
  go_wp2
  go_ret
  exact ⟨rfl, rfl⟩
theorem look_yes (vb pb mb : Nat) (id : ByteArray) (w : World) (b o : Nat) (c0 : w.cell? ⟨vb, 0, none⟩ = some (.pointer (some ⟨pb, 0, none⟩))) (c1 : w.cell? ⟨pb, 2, none⟩ = some (.map (some mb)))
    (hl : (Instr.lookup 24 (.map (some mb)) (.string id) false).run Yba.prog w = .ok (.pointer (some ⟨b, o, none⟩)) w) :
    Calls Yba.prog 9 #[.string id, .pointer (some ⟨vb, 0, none⟩)] w fun e w' => e = .returned (.string { data := #[105, 110, 32, 117, 115, 101] }) ∧ w = w' := by
  go_enter Yba.func9, Yba.ntmps9
  go_wp2
  go_ret
  exact ⟨rfl, rfl⟩
end Go.Proofs.Ybulkamru
