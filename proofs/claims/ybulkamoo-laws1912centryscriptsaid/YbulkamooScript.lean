/-
  OUR OWN. The plain part of 'LawS1912CEntryScript': what one round of the script does to the list of keys and of counts; 'zzs1912ckey' (function 12).
-/
import Derived.Test.YbulkamooEntry3
namespace Go.Proofs.Ybulkamoo
open Go.RowKit
set_option linter.unusedVariables false

def keyOfSel (n : Int) : ByteArray :=
  if n % 5 = 0 then ⟨#[]⟩ else if n % 5 = 1 then ⟨#[97]⟩ else if n % 5 = 2 then ⟨#[97, 98]⟩ else if n % 5 = 3 then ⟨#[98]⟩ else ⟨#[98, 97]⟩
set_option maxHeartbeats 400000 in
theorem ckey_any (n : Int) (w : World) (h0 : 0 ≤ n) (h1 : n ≤ 255) :
    Calls Yba.prog 12 #[.int .u8 n] w fun e w' => e = .returned (.string (keyOfSel n)) ∧ w = w' := by
  go_enter Yba.func12, Yba.ntmps12
  go_wp2
  all_goals go_ret
  all_goals simp_all [keyOfSel]

/-- The place of k among M: the first. -/
def place : List ByteArray → ByteArray → Nat
  | [], _ => 0
  | a :: M, k => if a = k then 0 else place M k + 1
theorem place_le : ∀ (M : List ByteArray) (k : ByteArray), place M k ≤ M.length
  | [], _ => Nat.le_refl _
  | a :: M, k => by unfold place; split; exact Nat.zero_le _; have := place_le M k; simp; omega
theorem place_mem : ∀ (M : List ByteArray) (k : ByteArray), k ∈ M → M[place M k]? = some k
  | [], _, h => by cases h
  | a :: M, k, h => by
    unfold place
    split
    · rename_i e; subst e; rfl
    · rename_i e
      simp only [List.getElem?_cons_succ]
      exact place_mem M k (by rcases List.mem_cons.1 h with h | h; exact absurd h.symm e; exact h)
theorem place_lt {M : List ByteArray} {k : ByteArray} (h : k ∈ M) : place M k < M.length := by
  have := place_mem M k h
  rcases Nat.lt_or_ge (place M k) M.length with h' | h'
  · exact h'
  · rw [List.getElem?_eq_none h'] at this; cases this
theorem place_first : ∀ (M : List ByteArray) (k : ByteArray) (i : Nat), i < place M k → M[i]? ≠ some k
  | [], _, _, h => by simp [place] at h
  | a :: M, k, i, h => by
    unfold place at h
    split at h
    · omega
    · rename_i e
      cases i with
      | zero => simpa using e
      | succ i => simp only [List.getElem?_cons_succ]; exact place_first M k i (by omega)
theorem place_not : ∀ (M : List ByteArray) (k : ByteArray), k ∉ M → place M k = M.length
  | [], _, _ => rfl
  | a :: M, k, h => by
    simp only [List.mem_cons, not_or] at h
    unfold place
    rw [if_neg (Ne.symm h.1), place_not M k h.2]
    rfl
theorem place_uniq {M : List ByteArray} (hnd : M.Nodup) {k : ByteArray} {j : Nat} (h : M[j]? = some k) : j = place M k := by
  have hlt : j < M.length := by rcases Nat.lt_or_ge j M.length with h' | h'; exact h'; rw [List.getElem?_eq_none h'] at h; cases h
  exact (List.getElem?_inj hlt hnd).1 (h.trans (place_mem M k (List.mem_of_getElem? h)).symm)

/-- The keys behind a round, the counts behind a round. -/
def nextM (M : List ByteArray) (k : ByteArray) : List ByteArray := if place M k < M.length then M else M ++ [k]
def growC (M : List ByteArray) (C : List Nat) (k : ByteArray) : List Nat := if place M k < M.length then C else C ++ [0]
def nextC (M : List ByteArray) (C : List Nat) (k : ByteArray) : List Nat := (growC M C k).modify (place M k) (· + 1)
end Go.Proofs.Ybulkamoo
