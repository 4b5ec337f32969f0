/-
  OUR OWN. The cache seen from outside: the list of its keys and pages in the order of use, and what each method makes of it.
-/
import Derived.Test.YbulkamooNew
namespace Go.Proofs.Ybulkamoo
open Go.RowKit
set_option linter.unusedVariables false

/-- Rows that are no page's node and no cache stand; so does all below B. -/
structure Fr (B : Nat) (w w' : World) : Prop where
  below : Below B w w'
  rows : ∀ (i : Nat) (c : Array Value) (t : TypeId) (f : Nat × Nat), w.heap[i]? = some (.cells c t f) → t ≠ 46 → t ≠ 48 → w'.heap[i]? = some (.cells c t f)
theorem Fr.rfl' (B : Nat) (w : World) : Fr B w w := ⟨Below.refl _ _, fun _ _ _ _ h _ _ => h⟩
theorem Fr.trans {B : Nat} {a b c : World} (h : Fr B a b) (k : Fr B b c) : Fr B a c := ⟨h.below.trans k.below, fun i x t f hi h1 h2 => k.rows i x t f (h.rows i x t f hi h1 h2) h1 h2⟩
theorem Fr.alloc {B : Nat} (w : World) (hB : B ≤ w.heap.size) (o : Obj) : Fr B w (w.alloc o) := ⟨(Below.refl _ _).alloc hB o, fun i c t f h _ _ => (Below.heap_alloc w o i (lt_of_block h)).trans h⟩
theorem Fr.ownsRow {B : Nat} {w w' : World} (h : Fr B w w') {base : Nat} {e : TypeId} {size : Nat} {v : Value} {n : Nat} {xs : List Value} (ho : w.ownsRow base e size v n xs) (h1 : e ≠ 46) (h2 : e ≠ 48) : w'.ownsRow base e size v n xs := by
  refine ⟨ho.1, ?_⟩
  rcases ho.2 with hn | ⟨g, cap, cur, rfl, hb, hg, r⟩
  · exact .inl hn
  · exact .inr ⟨g, cap, cur, rfl, hb, h.rows _ _ _ _ hg h1 h2, r⟩
theorem Fr.pgOk {B : Nat} {w w' : World} (h : Fr B w w') {v : Value} (hv : PgOk w v) : PgOk w' v := by
  obtain ⟨g, l, cs, rfl, hg, hl⟩ := hv
  exact ⟨g, l, cs, rfl, h.rows _ _ _ _ hg (by decide) (by decide), hl⟩

theorem CS.fr {B : Nat} {w w' : World} {cb mb lim : Nat} {L : List Nd} (h : CS B w cb mb lim L) (hc : Chg (CT cb mb L) w w') (hB : B ≤ w.heap.size) : Fr B w w' := by
  refine ⟨hc.below hB ?_, fun i c t f hi h1 h2 => hc.at hi ?_⟩
  · rintro k (rfl | rfl | ⟨y, hy, rfl⟩)
    · exact h.base.1
    · exact h.base.2.1
    · exact h.base.2.2 y hy
  · rintro (rfl | rfl | ⟨y, hy, rfl⟩)
    · obtain ⟨c', hc', _⟩ := h.ls.shp
      rw [hc'] at hi
      simp only [Option.some.injEq, Obj.cells.injEq] at hi
      exact h2 hi.2.1.symm
    · obtain ⟨Lm, hm, _⟩ := h.map
      exact hm.notCells hi
    · obtain ⟨c', hc', _⟩ := (h.ls.nodes y hy).1
      rw [hc'] at hi
      simp only [Option.some.injEq, Obj.cells.injEq] at hi
      exact h1 hi.2.1.symm

/-- The keys and pages. -/
abbrev kp (L : List Nd) : List (Int × Value) := L.map fun x => (x.n, x.pg)

/-- What 'put' makes of them. -/
def putK (lim : Nat) (K : List (Int × Value)) (n : Int) (pg : Value) : List (Int × Value) :=
  if lim = 0 ∨ n ∈ K.map (·.1) then K else if K.length = lim then (n, pg) :: K.dropLast else (n, pg) :: K

theorem put_all {B : Nat} {w : World} {cb mb lim : Nat} {L : List Nd} (h : CS B w cb mb lim L) (n : Int) (pa : Option Addr) (pl pc : Nat) (hlim : lim ≤ 127) (hB : B ≤ w.heap.size) :
    Calls Yba.prog 8 #[.pointer (some ⟨cb, 0, none⟩), .int .i64 n, .slice pa pl pc] w fun e w' => e = .returned (.tuple #[]) ∧ ∃ L', CS B w' cb mb lim L' ∧ kp L' = putK lim (kp L) n (.slice pa pl pc) ∧ Fr B w w' := by
  have hk : (kp L).map (·.1) = L.map Nd.n := by simp [kp, Function.comp_def]
  by_cases h0 : lim = 0 ∨ n ∈ (kp L).map (·.1)
  · refine (put_none h n pa pl pc ?_).mono ?_
    · rcases h0 with h0 | h0
      · exact Or.inl h0
      · rw [hk] at h0
        obtain ⟨x, hx, e⟩ := List.mem_map.1 h0
        exact Or.inr ⟨x, hx, e⟩
    · rintro e w' ⟨rfl, hc, hch⟩
      exact ⟨rfl, L, hc, by rw [putK, if_pos h0], h.fr hch hB⟩
  · have hn : ∀ x ∈ L, x.n ≠ n := fun x hx e => h0 (Or.inr (by rw [hk]; exact List.mem_map.2 ⟨x, hx, e⟩))
    have hl0 : lim ≠ 0 := fun e => h0 (Or.inl e)
    by_cases hf : L.length = lim
    · rcases List.eq_nil_or_concat L with rfl | ⟨L0, y, rfl⟩
      · simp at hf; omega
      · simp only [List.concat_eq_append] at *
        refine (put_evict h n pa pl pc (by simpa using hf) hlim hn hB).mono ?_
        rintro e w' ⟨rfl, hc, hch⟩
        refine ⟨rfl, _, hc, ?_, h.fr hch hB⟩
        rw [putK, if_neg h0, if_pos (by simpa [kp] using hf)]
        simp [kp]
    · refine (put_room h n pa pl pc (by have := h.len; omega) hlim hn hB).mono ?_
      rintro e w' ⟨rfl, b, hb, hc, hch⟩
      refine ⟨rfl, _, hc, ?_, h.fr hch hB⟩
      rw [putK, if_neg h0, if_neg (by simpa [kp] using hf)]
      rfl

theorem split_key {L : List Nd} {n : Int} (h : n ∈ L.map Nd.n) : ∃ l1 x l2, L = l1 ++ x :: l2 ∧ x.n = n := by
  obtain ⟨x, hx, e⟩ := List.mem_map.1 h
  obtain ⟨l1, l2, rfl⟩ := List.append_of_mem hx
  exact ⟨l1, x, l2, rfl, e⟩

theorem get_no {B : Nat} {w : World} {cb mb lim : Nat} {L : List Nd} (h : CS B w cb mb lim L) (n : Int) (hn : n ∉ L.map Nd.n) (hB : B ≤ w.heap.size) :
    Calls Yba.prog 9 #[.pointer (some ⟨cb, 0, none⟩), .int .i64 n] w fun e w' => e = .returned (.slice none 0 0) ∧ CS B w' cb mb lim L ∧ Fr B w w' := by
  refine (get_miss h n (fun x hx e => hn (List.mem_map.2 ⟨x, hx, e⟩))).mono ?_
  rintro e w' ⟨rfl, hc, hch⟩
  exact ⟨rfl, hc, h.fr hch hB⟩
theorem get_yes {B : Nat} {w : World} {cb mb lim : Nat} {l1 l2 : List Nd} {x : Nd} (h : CS B w cb mb lim (l1 ++ x :: l2)) (hB : B ≤ w.heap.size) :
    Calls Yba.prog 9 #[.pointer (some ⟨cb, 0, none⟩), .int .i64 x.n] w fun e w' => e = .returned x.pg ∧ CS B w' cb mb lim (x :: (l1 ++ l2)) ∧ Fr B w w' := by
  refine (get_hit h).mono ?_
  rintro e w' ⟨rfl, hc, hch⟩
  exact ⟨rfl, hc, h.fr hch hB⟩
theorem drop_no {B : Nat} {w : World} {cb mb lim : Nat} {L : List Nd} (h : CS B w cb mb lim L) (n : Int) (hn : n ∉ L.map Nd.n) (hB : B ≤ w.heap.size) :
    Calls Yba.prog 11 #[.pointer (some ⟨cb, 0, none⟩), .int .i64 n] w fun e w' => e = .returned (.tuple #[]) ∧ CS B w' cb mb lim L ∧ Fr B w w' := by
  refine (drop_miss h n (fun x hx e => hn (List.mem_map.2 ⟨x, hx, e⟩))).mono ?_
  rintro e w' ⟨rfl, hc, hch⟩
  exact ⟨rfl, hc, h.fr hch hB⟩
theorem drop_yes {B : Nat} {w : World} {cb mb lim : Nat} {l1 l2 : List Nd} {x : Nd} (h : CS B w cb mb lim (l1 ++ x :: l2)) (hB : B ≤ w.heap.size) :
    Calls Yba.prog 11 #[.pointer (some ⟨cb, 0, none⟩), .int .i64 x.n] w fun e w' => e = .returned (.tuple #[]) ∧ CS B w' cb mb lim (l1 ++ l2) ∧ Fr B w w' := by
  refine (drop_hit h).mono ?_
  rintro e w' ⟨rfl, hc, hch⟩
  exact ⟨rfl, hc, h.fr hch hB⟩

theorem putK_length {lim : Nat} {K : List (Int × Value)} (n : Int) (pg : Value) (h : K.length ≤ lim) : (putK lim K n pg).length ≤ lim := by
  unfold putK
  split
  · exact h
  · split
    · simp; omega
    · simp; omega
theorem putK_mem {lim : Nat} {K : List (Int × Value)} {n : Int} {pg : Value} {p : Int × Value} (h : p ∈ putK lim K n pg) : p ∈ K ∨ p = (n, pg) := by
  unfold putK at h
  split at h
  · exact Or.inl h
  · split at h
    · rcases List.mem_cons.1 h with h | h
      · exact Or.inr h
      · exact Or.inl ((List.dropLast_sublist K).subset h)
    · rcases List.mem_cons.1 h with h | h
      · exact Or.inr h
      · exact Or.inl h
theorem putK_has {lim : Nat} {K : List (Int × Value)} {n : Int} {pg : Value} (h : lim ≠ 0) (hn : n ∉ K.map (·.1)) : (n, pg) ∈ putK lim K n pg := by
  unfold putK
  rw [if_neg (by intro e; rcases e with e | e; exact h e; exact hn e)]
  split <;> simp
end Go.Proofs.Ybulkamoo
