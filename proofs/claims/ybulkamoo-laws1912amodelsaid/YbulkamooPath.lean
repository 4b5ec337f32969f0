/-
  OUR OWN. A ring of nodes, each of which holds the address of the one before it (two cells on) and of the one behind it (three cells on): what taking one out and putting one in front does. No walk here.
-/
import Derived.Test.YbulkamooBase
namespace Go.Proofs.Ybulkamoo
open Go.RowKit
set_option linter.unusedVariables false

abbrev nx (a : Addr) : Addr := ⟨a.block, a.off + 3, none⟩
abbrev pv (a : Addr) : Addr := ⟨a.block, a.off + 2, none⟩
abbrev ptr (a : Addr) : Value := .pointer (some a)

/-- a leads to z, and z back to a. -/
def Link (w : World) (a z : Addr) : Prop := w.cell? (nx a) = some (ptr z) ∧ w.cell? (pv z) = some (ptr a)
def Path (w : World) : Addr → List Addr → Addr → Prop
  | a, [], z => Link w a z
  | a, x :: l, z => Link w a x ∧ Path w x l z

theorem Path.snoc {w : World} : ∀ (l : List Addr) (a p z : Addr), Path w a (l ++ [p]) z ↔ Path w a l p ∧ Link w p z
  | [], a, p, z => Iff.rfl
  | x :: l, a, p, z => by
    show Link w a x ∧ Path w x (l ++ [p]) z ↔ (Link w a x ∧ Path w x l p) ∧ Link w p z
    rw [Path.snoc l x p z, and_assoc]
theorem Path.split {w : World} : ∀ (l : List Addr) (a x : Addr) (r : List Addr) (z : Addr), Path w a (l ++ x :: r) z ↔ Path w a l x ∧ Path w x r z
  | [], a, x, r, z => Iff.rfl
  | y :: l, a, x, r, z => by
    show Link w a y ∧ Path w y (l ++ x :: r) z ↔ (Link w a y ∧ Path w y l x) ∧ Path w x r z
    rw [Path.split l y x r z, and_assoc]

theorem ne_block {a b : Addr} (h : a.block ≠ b.block) : a ≠ b := fun e => h (by rw [e])
theorem nx_ne {u v : Addr} (h : u.block ≠ v.block) : nx u ≠ nx v := fun e => h (by simpa using congrArg Addr.block e)
theorem pv_ne {u v : Addr} (h : u.block ≠ v.block) : pv u ≠ pv v := fun e => h (by simpa using congrArg Addr.block e)
theorem nx_pv {u v : Addr} (h : u.block = v.block → u = v) : nx u ≠ pv v := by
  intro e
  have h1 : u.block = v.block := by simpa using congrArg Addr.block e
  have h2 : u.off + 3 = v.off + 2 := by simpa using congrArg Addr.off e
  have := h h1
  subst this
  omega

theorem Link.set {w : World} {a z c : Addr} (v : Value) (h : Link w a z) (h1 : nx a ≠ c) (h2 : pv z ≠ c) : Link (w.setCell c v) a z :=
  ⟨(World.cell?_setCell_other w c _ v h1.symm).trans h.1, (World.cell?_setCell_other w c _ v h2.symm).trans h.2⟩
theorem Path.set {w : World} {c : Addr} (v : Value) : ∀ (l : List Addr) (a z : Addr), Path w a l z → (∀ u ∈ a :: l, nx u ≠ c) → (∀ u ∈ l ++ [z], pv u ≠ c) → Path (w.setCell c v) a l z
  | [], a, z, h, h1, h2 => Link.set v h (h1 a (by simp)) (h2 z (by simp))
  | x :: l, a, z, h, h1, h2 => ⟨Link.set v h.1 (h1 a (by simp)) (h2 x (by simp)), Path.set v l x z h.2 (fun u hu => h1 u (List.mem_cons_of_mem _ hu)) (fun u hu => h2 u (by simp at hu ⊢; exact Or.inr hu))⟩

def lastA (s : Addr) (l : List Addr) : Addr := l.getLast?.getD s
def headA (l : List Addr) (z : Addr) : Addr := l.head?.getD z
theorem Path.pv_end {w : World} {a z : Addr} {l : List Addr} (h : Path w a l z) : w.cell? (pv z) = some (ptr (lastA a l)) := by
  rcases List.eq_nil_or_concat l with rfl | ⟨l', p, rfl⟩
  · exact h.2
  · simp only [List.concat_eq_append] at h ⊢
    rw [Path.snoc] at h
    simpa [lastA] using h.2.2
theorem Path.nx_start {w : World} {a z : Addr} {l : List Addr} (h : Path w a l z) : w.cell? (nx a) = some (ptr (headA l z)) := by
  cases l with
  | nil => exact h.1
  | cons x l => exact h.1.1
theorem Path.nx_some {w : World} : ∀ {l : List Addr} {a z : Addr}, Path w a l z → ∀ u ∈ a :: l, ∃ v, w.cell? (nx u) = some v
  | [], a, z, h, u, hu => by simp at hu; subst hu; exact ⟨_, h.1⟩
  | x :: l, a, z, h, u, hu => by
    rcases List.mem_cons.1 hu with rfl | hu
    · exact ⟨_, h.1.1⟩
    · exact Path.nx_some h.2 u hu
theorem Path.pv_some {w : World} : ∀ {l : List Addr} {a z : Addr}, Path w a l z → ∀ u ∈ l ++ [z], ∃ v, w.cell? (pv u) = some v
  | [], a, z, h, u, hu => by simp at hu; subst hu; exact ⟨_, h.2⟩
  | x :: l, a, z, h, u, hu => by
    rcases List.mem_cons.1 hu with rfl | hu
    · exact ⟨_, h.1.2⟩
    · exact Path.pv_some h.2 u hu

/-- A fresh link by its two stores. -/
theorem Link.made {w : World} {p q : Addr} {x y : Value} (h1 : w.cell? (nx p) = some x) (h2 : w.cell? (pv q) = some y) (hne : nx p ≠ pv q) : Link ((w.setCell (nx p) (ptr q)).setCell (pv q) (ptr p)) p q := by
  refine ⟨?_, ?_⟩
  · exact (World.cell?_setCell_other _ _ _ _ hne.symm).trans (World.cell?_setCell_same w _ _ h1)
  · exact World.cell?_setCell_same _ _ _ ((World.cell?_setCell_other w _ _ _ hne).trans h2)

theorem inj_of_nodup {α β : Type} {f : α → β} : ∀ {l : List α}, (l.map f).Nodup → ∀ u ∈ l, ∀ v ∈ l, f u = f v → u = v
  | [], _, u, hu, _, _, _ => by cases hu
  | a :: l, h, u, hu, v, hv, e => by
    rw [List.map_cons, List.nodup_cons] at h
    rcases List.mem_cons.1 hu with hu' | hu'
    · rcases List.mem_cons.1 hv with hv' | hv'
      · rw [hu', hv']
      · exact absurd (List.mem_map.2 ⟨v, hv', by rw [← e, hu']⟩) h.1
    · rcases List.mem_cons.1 hv with hv' | hv'
      · exact absurd (List.mem_map.2 ⟨u, hu', by rw [e, hv']⟩) h.1
      · exact inj_of_nodup h.2 u hu' v hv' e
theorem nodup_of_map {α β : Type} {f : α → β} : ∀ {l : List α}, (l.map f).Nodup → l.Nodup
  | [], _ => List.nodup_nil
  | a :: l, h => by
    rw [List.map_cons, List.nodup_cons] at h
    exact List.nodup_cons.2 ⟨fun ha => h.1 (List.mem_map.2 ⟨a, ha, rfl⟩), nodup_of_map h.2⟩

/-- A stretch that neither begins a step at p nor ends one at q stands over the two stores of a new link p > q. -/
theorem Path.keep {w : World} {p q a z : Addr} {l : List Addr} {A : List Addr} (inj : ∀ u ∈ A, ∀ v ∈ A, u.block = v.block → u = v) (hp : p ∈ A) (hq : q ∈ A) (x y : Value) (h : Path w a l z) (hA : ∀ u ∈ a :: (l ++ [z]), u ∈ A) (h1 : p ∉ a :: l) (h2 : q ∉ l ++ [z]) :
    Path ((w.setCell (nx p) x).setCell (pv q) y) a l z := by
  have s1 : ∀ u ∈ a :: l, u ∈ A := fun u hu => hA u (by simp at hu ⊢; rcases hu with h | h; exact Or.inl h; exact Or.inr (Or.inl h))
  have s2 : ∀ u ∈ l ++ [z], u ∈ A := fun u hu => hA u (List.mem_cons_of_mem _ hu)
  refine Path.set _ l a z (Path.set _ l a z h ?_ ?_) ?_ ?_
  · intro u hu; exact nx_ne (fun e => h1 (inj u (s1 u hu) p hp e ▸ hu))
  · intro u hu; exact (nx_pv (fun e => inj p hp u (s2 u hu) e)).symm
  · intro u hu; exact nx_pv (fun e => inj u (s1 u hu) q hq e)
  · intro u hu; exact pv_ne (fun e => h2 (inj u (s2 u hu) q hq e ▸ hu))

/-- 'p.prev.next, p.next.prev = p.next, p.prev': x is out of the ring. -/
theorem Path.unlink {w : World} {S x : Addr} {l1 l2 : List Addr} (h : Path w S (l1 ++ x :: l2) S) (hok : ((S :: (l1 ++ x :: l2)).map Addr.block).Nodup) :
    Path ((w.setCell (nx (lastA S l1)) (ptr (headA l2 S))).setCell (pv (headA l2 S)) (ptr (lastA S l1))) S (l1 ++ l2) S := by
  have inj := inj_of_nodup hok
  have nd := nodup_of_map hok
  rw [Path.split] at h
  obtain ⟨ha, hb⟩ := h
  rcases List.eq_nil_or_concat l1 with rfl | ⟨l', p, rfl⟩
  · cases l2 with
    | nil =>
      exact Link.made ha.1 hb.2 (nx_pv (fun _ => rfl))
    | cons q r =>
      obtain ⟨hb1, hb2⟩ := hb
      have e1 : lastA S [] = S := rfl
      have e2 : headA (q :: r) S = q := rfl
      rw [e1, e2]
      simp only [List.nil_append] at inj nd ⊢
      have hqS : q ≠ S := by intro e; subst e; simp at nd
      refine ⟨Link.made ha.1 hb1.2 (nx_pv (fun e => inj S (by simp) q (by simp) e)), ?_⟩
      refine Path.keep inj (by simp) (by simp) _ _ hb2 ?_ ?_ ?_
      · intro u hu; simp at hu ⊢; rcases hu with h | h | h
        · exact Or.inr (Or.inr (Or.inl h))
        · exact Or.inr (Or.inr (Or.inr h))
        · exact Or.inl h
      · simp only [List.nodup_cons, List.mem_cons, not_or] at nd ⊢; exact ⟨nd.1.2.1, nd.1.2.2⟩
      · simp only [List.nodup_cons, List.mem_cons, List.mem_append, List.mem_nil_iff, not_or, or_false] at nd ⊢; exact ⟨nd.2.2.1, hqS⟩
  · simp only [List.concat_eq_append] at *
    have e1 : lastA S (l' ++ [p]) = p := by simp [lastA]
    rw [Path.snoc] at ha
    obtain ⟨ha1, ha2⟩ := ha
    rw [e1]
    cases l2 with
    | nil =>
      have e2 : headA [] S = S := rfl
      rw [e2, List.append_nil, Path.snoc]
      have hpS : p ≠ S := by intro e; subst e; simp at nd
      have hm : p ∈ S :: (l' ++ [p] ++ [x]) := by simp
      refine ⟨Path.keep inj hm (by simp) _ _ ha1 ?_ ?_ ?_, Link.made ha2.1 hb.2 (nx_pv (fun e => inj p hm S (by simp) e))⟩
      · intro u hu; simp at hu ⊢; rcases hu with h | h | h
        · exact Or.inl h
        · exact Or.inr (Or.inl h)
        · exact Or.inr (Or.inr (Or.inl h))
      · simp only [List.nodup_cons, List.nodup_append, List.mem_append, List.mem_cons, List.mem_nil_iff, or_false, not_or] at nd ⊢
        exact ⟨hpS, fun hp => nd.2.1.2.2 p hp p rfl rfl⟩
      · simp only [List.nodup_cons, List.mem_append, List.mem_cons, List.mem_nil_iff, or_false, not_or] at nd ⊢
        exact ⟨nd.1.1.1, hpS.symm⟩
    | cons q r =>
      obtain ⟨hb1, hb2⟩ := hb
      have e2 : headA (q :: r) S = q := rfl
      rw [e2, Path.split, Path.snoc]
      have hm : p ∈ S :: (l' ++ [p] ++ x :: q :: r) := by simp
      have hmq : q ∈ S :: (l' ++ [p] ++ x :: q :: r) := by simp
      simp only [List.nodup_cons, List.nodup_append, List.mem_append, List.mem_cons, List.mem_nil_iff, or_false, not_or] at nd
      refine ⟨⟨Path.keep inj hm hmq _ _ ha1 ?_ ?_ ?_, Link.made ha2.1 hb1.2 (nx_pv (fun e => inj p hm q hmq e))⟩, Path.keep inj hm hmq _ _ hb2 ?_ ?_ ?_⟩
      · intro u hu; simp at hu ⊢; rcases hu with h | h | h
        · exact Or.inl h
        · exact Or.inr (Or.inl h)
        · exact Or.inr (Or.inr (Or.inl h))
      · simp only [List.mem_cons, not_or]
        exact ⟨fun e => nd.1.1.2 e.symm, fun hp => nd.2.1.2.2 p hp p rfl rfl⟩
      · simp only [List.mem_append, List.mem_cons, List.mem_nil_iff, or_false, not_or]
        exact ⟨fun hq => nd.2.2.2 q (Or.inl hq) q (Or.inr (Or.inl rfl)) rfl, fun e => nd.2.2.2 p (Or.inr rfl) q (Or.inr (Or.inl rfl)) e.symm⟩
      · intro u hu; simp at hu ⊢; rcases hu with h | h | h
        · exact Or.inr (Or.inr (Or.inr (Or.inr (Or.inl h))))
        · exact Or.inr (Or.inr (Or.inr (Or.inr (Or.inr h))))
        · exact Or.inl h
      · simp only [List.mem_cons, not_or]
        exact ⟨fun e => nd.2.2.2 p (Or.inr rfl) q (Or.inr (Or.inl rfl)) e, fun hp => nd.2.2.2 p (Or.inr rfl) p (Or.inr (Or.inr hp)) rfl⟩
      · simp only [List.mem_append, List.mem_cons, List.mem_nil_iff, or_false, not_or]
        exact ⟨fun hq => nd.2.2.1.2.1 hq, fun e => nd.1.2.2.1 e.symm⟩

theorem cell_stays {w : World} {c d : Addr} {v : Value} (h : ∃ u, w.cell? d = some u) : ∃ u, (w.setCell c v).cell? d = some u := by
  obtain ⟨u, hu⟩ := h
  by_cases e : c = d
  · subst e; exact ⟨v, World.cell?_setCell_same w c v hu⟩
  · exact ⟨u, (World.cell?_setCell_other w c d v e).trans hu⟩
theorem cell_now {w : World} {c : Addr} {v : Value} (h : ∃ u, w.cell? c = some u) : (w.setCell c v).cell? c = some v := by
  obtain ⟨u, hu⟩ := h
  exact World.cell?_setCell_same w c v hu
theorem cell_off {w : World} {c d : Addr} {v : Value} {x : Option Value} (h : c ≠ d) (hd : w.cell? d = x) : (w.setCell c v).cell? d = x := (World.cell?_setCell_other w c d v h).trans hd

/-- 'p.prev, p.next = &c.recent, c.recent.next; p.next.prev = p; c.recent.next = p': x is the first of the ring. -/
theorem Path.push {w : World} {S x : Addr} {l : List Addr} (h : Path w S l S) (hok : ((S :: x :: l).map Addr.block).Nodup) {u v : Value} (hx1 : w.cell? (pv x) = some u) (hx2 : w.cell? (nx x) = some v) :
    Path ((((w.setCell (pv x) (ptr S)).setCell (nx x) (ptr (headA l S))).setCell (pv (headA l S)) (ptr x)).setCell (nx S) (ptr x)) S (x :: l) S := by
  have inj := inj_of_nodup hok
  have nd := nodup_of_map hok
  have hxS : S ≠ x := fun e => by subst e; simp at nd
  have hbS : S.block ≠ x.block := fun e => hxS (inj S (by simp) x (by simp) e)
  have hxx : nx x ≠ pv x := nx_pv (fun _ => rfl)
  have hSS : nx S ≠ pv S := nx_pv (fun _ => rfl)
  have n1 : nx S ≠ pv x := nx_pv (fun e => absurd e hbS)
  have n2 : nx S ≠ nx x := nx_ne hbS
  have n3 : nx x ≠ pv S := nx_pv (fun e => absurd e.symm hbS)
  have n4 : pv S ≠ pv x := pv_ne hbS
  cases l with
  | nil =>
    have e2 : headA [] S = S := rfl
    rw [e2]
    refine ⟨⟨cell_now (cell_stays (cell_stays (cell_stays ⟨_, h.1⟩))), ?_⟩, ⟨?_, ?_⟩⟩
    · exact cell_off n1 (cell_off n4 (cell_off hxx (cell_now ⟨_, hx1⟩)))
    · exact cell_off n2 (cell_off n3.symm (cell_now (cell_stays ⟨_, hx2⟩)))
    · exact cell_off hSS (cell_now (cell_stays (cell_stays ⟨_, h.2⟩)))
  | cons f r =>
    have e2 : headA (f :: r) S = f := rfl
    rw [e2]
    obtain ⟨h1, h2⟩ := h
    have hfx : f.block ≠ x.block := fun e => by
      have := inj f (by simp) x (by simp) e
      subst this
      simp at nd
    have hfS : f.block ≠ S.block := fun e => by
      have := inj f (by simp) S (by simp) e
      subst this
      simp at nd
    have m1 : pv f ≠ pv x := pv_ne hfx
    have m2 : nx x ≠ pv f := nx_pv (fun e => absurd e.symm hfx)
    have m3 : nx S ≠ pv f := nx_pv (fun e => absurd e.symm hfS)
    refine ⟨⟨cell_now (cell_stays (cell_stays (cell_stays ⟨_, h1.1⟩))), ?_⟩, ⟨?_, ?_⟩, ?_⟩
    · exact cell_off n1 (cell_off m1 (cell_off hxx (cell_now ⟨_, hx1⟩)))
    · exact cell_off n2 (cell_off m2.symm (cell_now (cell_stays ⟨_, hx2⟩)))
    · exact cell_off m3 (cell_now (cell_stays (cell_stays ⟨_, h1.2⟩)))
    · have src : ∀ u ∈ f :: r, u.block ≠ x.block ∧ u.block ≠ S.block := fun u hu => ⟨fun e => by
          have := inj u (by simp at hu ⊢; exact Or.inr (Or.inr hu)) x (by simp) e
          subst this
          simp only [List.nodup_cons] at nd
          exact nd.2.1 hu, fun e => by
          have := inj u (by simp at hu ⊢; exact Or.inr (Or.inr hu)) S (by simp) e
          subst this
          simp only [List.nodup_cons] at nd
          exact nd.1 (List.mem_cons_of_mem _ hu)⟩
      have tgt : ∀ u ∈ r ++ [S], u.block ≠ x.block ∧ u.block ≠ f.block := by
        intro u hu
        rcases List.mem_append.1 hu with hu | hu
        · refine ⟨(src u (List.mem_cons_of_mem _ hu)).1, fun e => ?_⟩
          have := inj u (by simp; exact Or.inr (Or.inr (Or.inr hu))) f (by simp) e
          subst this
          simp only [List.nodup_cons] at nd
          exact nd.2.2.1 hu
        · simp at hu
          subst hu
          exact ⟨hbS, hfS.symm⟩
      refine Path.set _ _ _ _ (Path.set _ _ _ _ (Path.set _ _ _ _ (Path.set _ _ _ _ h2 ?_ ?_) ?_ ?_) ?_ ?_) ?_ ?_
      · intro u hu; exact nx_pv (fun e => absurd e (src u hu).1)
      · intro u hu; exact pv_ne (tgt u hu).1
      · intro u hu; exact nx_ne (src u hu).1
      · intro u hu; exact (nx_pv (fun e => absurd e.symm (tgt u hu).1)).symm
      · intro u hu; exact nx_pv (fun e => by
          rcases List.mem_cons.1 hu with h | h
          · exact h
          · have := inj u (by simp; exact Or.inr (Or.inr (Or.inr h))) f (by simp) e
            exact this)
      · intro u hu; exact pv_ne (tgt u hu).2
      · intro u hu; exact nx_ne (src u hu).2
      · intro u hu; exact (nx_pv (fun e => by
          rcases List.mem_append.1 hu with h | h
          · exact absurd e.symm (src u (List.mem_cons_of_mem _ h)).2
          · simp at h; exact h.symm)).symm
end Go.Proofs.Ybulkamoo
