/-
  OUR OWN. '(*cachedPage).unlink' (function 17) and '(*pageCache).pushFront' (function 18): their walks, and what they do to the ring of pages.
-/
import Derived.Test.YbulkamooRows
import Derived.Test.YbulkamooPath
import Derived.BigRegion
namespace Go.Proofs.Ybulkamoo
open Go.RowKit
set_option linter.unusedVariables false

set_option maxRecDepth 20000 in
set_option maxHeartbeats 1600000 in
theorem unlink_any (b pb po nb no : Nat) (w : World) (c2 : w.cell? ⟨b, 2, none⟩ = some (.pointer (some ⟨pb, po, none⟩))) (c3 : w.cell? ⟨b, 3, none⟩ = some (.pointer (some ⟨nb, no, none⟩)))
    (x y : Value) (d1 : w.cell? ⟨pb, po + 3, none⟩ = some x) (d2 : w.cell? ⟨nb, no + 2, none⟩ = some y) (f1 : w.frozen? ⟨pb, po + 3, none⟩ = false) (f2 : w.frozen? ⟨nb, no + 2, none⟩ = false)
    (hne : ¬ (pb = nb ∧ po + 3 = no + 2)) :
    Calls Yba.prog 17 #[.pointer (some ⟨b, 0, none⟩)] w fun e w' => e = .returned (.tuple #[]) ∧ w' = ((w.setCell ⟨pb, po + 3, none⟩ (.pointer (some ⟨nb, no, none⟩))).setCell ⟨nb, no + 2, none⟩ (.pointer (some ⟨pb, po, none⟩))).drew := by
  have g1 : ∀ v, (w.setCell ⟨pb, po + 3, none⟩ v).cell? ⟨nb, no + 2, none⟩ = some y := fun v => (World.cell?_setCell_other w _ _ v (by simp; omega)).trans d2
  have g2 : ∀ v, (w.setCell ⟨nb, no + 2, none⟩ v).cell? ⟨pb, po + 3, none⟩ = some x := fun v => (World.cell?_setCell_other w _ _ v (by simp; omega)).trans d1
  go_enter Yba.func17, Yba.ntmps17
  go_region
  go_end0
  exact ⟨rfl, rfl⟩

set_option maxRecDepth 20000 in
set_option maxHeartbeats 1600000 in
theorem push_any (cb b fb fo : Nat) (w : World) (hbc : b ≠ cb) (hbf : b ≠ fb) (hfo : fb = cb → fo = 4) (c7 : w.cell? ⟨cb, 7, none⟩ = some (.pointer (some ⟨fb, fo, none⟩)))
    (x y z : Value) (d1 : w.cell? ⟨b, 2, none⟩ = some x) (d2 : w.cell? ⟨b, 3, none⟩ = some y) (d3 : w.cell? ⟨fb, fo + 2, none⟩ = some z)
    (f1 : w.frozen? ⟨b, 2, none⟩ = false) (f2 : w.frozen? ⟨b, 3, none⟩ = false) (f3 : w.frozen? ⟨fb, fo + 2, none⟩ = false) (f4 : w.frozen? ⟨cb, 7, none⟩ = false) :
    Calls Yba.prog 18 #[.pointer (some ⟨cb, 0, none⟩), .pointer (some ⟨b, 0, none⟩)] w fun e w' => e = .returned (.tuple #[]) ∧
      w' = ((((w.setCell ⟨b, 2, none⟩ (.pointer (some ⟨cb, 4, none⟩))).setCell ⟨b, 3, none⟩ (.pointer (some ⟨fb, fo, none⟩))).setCell ⟨fb, fo + 2, none⟩ (.pointer (some ⟨b, 0, none⟩))).setCell ⟨cb, 7, none⟩ (.pointer (some ⟨b, 0, none⟩))).drew := by
  have hbc' : ¬ cb = b := fun e => hbc e.symm
  have hbf' : ¬ fb = b := fun e => hbf e.symm
  have g : ∀ u v t, (((w.setCell ⟨b, 2, none⟩ u).setCell ⟨b, 3, none⟩ v).setCell ⟨fb, fo + 2, none⟩ t).cell? ⟨cb, 7, none⟩ = some (.pointer (some ⟨fb, fo, none⟩)) := fun u v t =>
    cell_off (by simp; intro e; have := hfo e; omega) (cell_off (by simp) (cell_off (by simp) c7))
  go_enter Yba.func18, Yba.ntmps18
  go_wp2
  go_region
  go_wp2
  go_end0
  exact ⟨rfl, rfl⟩

/-! ### shapes -/
def Shape (w : World) (b : Nat) (t : TypeId) (n : Nat) : Prop := ∃ c : Array Value, w.heap[b]? = some (.cells c t (0, 0)) ∧ c.size = n
theorem Shape.set {w : World} {b : Nat} {t : TypeId} {n : Nat} (h : Shape w b t n) (a : Addr) (v : Value) : Shape (w.setCell a v) b t n := by
  obtain ⟨c, hc, hs⟩ := h
  by_cases e : b = a.block
  · subst e
    refine ⟨if a.spot.isSome then c else c.setIfInBounds a.off v, ?_, ?_⟩
    · simp [World.setCell, Array.getElem?_modify, hc]
    · split <;> simp [hs]
  · exact ⟨c, (heap_setCell_other w a b v e).trans hc, hs⟩
theorem Shape.kept {S : Nat → Prop} {w w' : World} {b : Nat} {t : TypeId} {n : Nat} (h : Shape w b t n) (hc : Chg S w w') (hs : ¬ S b) : Shape w' b t n := by
  obtain ⟨c, h1, h2⟩ := h
  exact ⟨c, hc.at h1 hs, h2⟩
theorem Shape.free {w : World} {b : Nat} {t : TypeId} {n : Nat} (h : Shape w b t n) (o : Nat) : w.frozen? ⟨b, o, none⟩ = false := by
  obtain ⟨c, h1, _⟩ := h
  exact frozen_of_row w b o c t h1
theorem Shape.lt {w : World} {b : Nat} {t : TypeId} {n : Nat} (h : Shape w b t n) : b < w.heap.size := by
  obtain ⟨c, h1, _⟩ := h
  exact lt_of_block h1
theorem Shape.cell {w : World} {b : Nat} {t : TypeId} {n : Nat} (h : Shape w b t n) {o : Nat} (ho : o < n) : ∃ v, w.cell? ⟨b, o, none⟩ = some v := by
  obtain ⟨c, h1, h2⟩ := h
  exact ⟨c[o]'(by omega), by rw [cell_of_row w b o c t _ h1]; simp⟩
theorem Shape.kind {w : World} {b : Nat} {t t' : TypeId} {n n' : Nat} (h : Shape w b t n) (h' : Shape w b t' n') : t = t' := by
  obtain ⟨c, h1, _⟩ := h
  obtain ⟨c', h1', _⟩ := h'
  rw [h1] at h1'
  simp only [Option.some.injEq, Obj.cells.injEq] at h1'
  exact h1'.2.1
/-- A cell of a block that is not touched. -/
theorem Chg.cell {S : Nat → Prop} {w w' : World} (h : Chg S w w') {b o : Nat} {v : Value} (hc : w.cell? ⟨b, o, none⟩ = some v) (hs : ¬ S b) : w'.cell? ⟨b, o, none⟩ = some v :=
  (World.cell?_of_block (w := w) (h.block b (block_lt_of_cell hc) hs)).trans hc

/-! ### the ring -/
structure Nd where
  b : Nat
  n : Int
  pg : Value
abbrev Nd.addr (x : Nd) : Addr := ⟨x.b, 0, none⟩

structure LS (w : World) (cb : Nat) (L : List Nd) : Prop where
  shp : Shape w cb 48 8
  path : Path w ⟨cb, 4, none⟩ (L.map Nd.addr) ⟨cb, 4, none⟩
  nodes : ∀ x ∈ L, Shape w x.b 46 4 ∧ w.cell? ⟨x.b, 0, none⟩ = some (.int .i64 x.n) ∧ w.cell? ⟨x.b, 1, none⟩ = some x.pg
  ok : (cb :: L.map Nd.b).Nodup

theorem LS.blocks {w : World} {cb : Nat} {L : List Nd} (h : LS w cb L) : (((⟨cb, 4, none⟩ : Addr) :: L.map Nd.addr).map Addr.block).Nodup := by
  have : (((⟨cb, 4, none⟩ : Addr) :: L.map Nd.addr).map Addr.block) = cb :: L.map Nd.b := by simp [Function.comp_def]
  rw [this]; exact h.ok

theorem lastA_form (cb : Nat) (l : List Nd) : ∃ pb po, lastA ⟨cb, 4, none⟩ (l.map Nd.addr) = ⟨pb, po, none⟩ ∧ ((pb = cb ∧ po = 4) ∨ ∃ y ∈ l, pb = y.b ∧ po = 0) := by
  rcases List.eq_nil_or_concat l with rfl | ⟨l', y, rfl⟩
  · exact ⟨cb, 4, rfl, Or.inl ⟨rfl, rfl⟩⟩
  · exact ⟨y.b, 0, by simp [lastA], Or.inr ⟨y, by simp, rfl, rfl⟩⟩
theorem headA_form (cb : Nat) (l : List Nd) : ∃ pb po, headA (l.map Nd.addr) ⟨cb, 4, none⟩ = ⟨pb, po, none⟩ ∧ ((pb = cb ∧ po = 4) ∨ ∃ y ∈ l, pb = y.b ∧ po = 0) := by
  cases l with
  | nil => exact ⟨cb, 4, rfl, Or.inl ⟨rfl, rfl⟩⟩
  | cons y l => exact ⟨y.b, 0, rfl, Or.inr ⟨y, by simp, rfl, rfl⟩⟩

/-- What a step on the ring may touch, and what of the cache's own cells it leaves. -/
structure Ring (w w' : World) (cb : Nat) (L : List Nd) : Prop where
  chg : Chg (fun i => i = cb ∨ ∃ y ∈ L, i = y.b) w w'
  own : ∀ o, o < 6 → w'.cell? ⟨cb, o, none⟩ = w.cell? ⟨cb, o, none⟩
  shp : ∀ b t n, Shape w b t n → Shape w' b t n
  pay : ∀ y ∈ L, ∀ o, o < 2 → w'.cell? ⟨y.b, o, none⟩ = w.cell? ⟨y.b, o, none⟩

theorem Ring.trans {w w' w'' : World} {cb : Nat} {L : List Nd} (h : Ring w w' cb L) (k : Ring w' w'' cb L) : Ring w w'' cb L :=
  ⟨h.chg.trans k.chg, fun o ho => (k.own o ho).trans (h.own o ho), fun b t n hs => k.shp b t n (h.shp b t n hs), fun y hy o ho => (k.pay y hy o ho).trans (h.pay y hy o ho)⟩
theorem Ring.mono {w w' : World} {cb : Nat} {L L' : List Nd} (h : Ring w w' cb L) (hL : ∀ x ∈ L', x ∈ L) (hp : ∀ x ∈ L', x ∈ L) : Chg (fun i => i = cb ∨ ∃ y ∈ L, i = y.b) w w' := h.chg

/-- One store into a next or prev cell of the ring. -/
theorem Ring.store {w : World} {cb : Nat} {L : List Nd} {pb po : Nat} (hp : (pb = cb ∧ po = 4) ∨ ∃ y ∈ L, pb = y.b ∧ po = 0) (hcb : ∀ y ∈ L, y.b ≠ cb) (k : Nat) (hk : k = 2 ∨ k = 3) (v : Value) : Ring w (w.setCell ⟨pb, po + k, none⟩ v) cb L := by
  refine ⟨Chg.setCell _ _ _ _ ?_, fun o ho => World.cell?_setCell_other _ _ _ _ ?_, fun b t n hs => hs.set _ _, fun y hy o ho => World.cell?_setCell_other _ _ _ _ ?_⟩
  · rcases hp with ⟨rfl, _⟩ | ⟨y, hy, rfl, _⟩
    · exact Or.inl rfl
    · exact Or.inr ⟨y, hy, rfl⟩
  · intro e
    simp only [Addr.mk.injEq] at e
    rcases hp with ⟨_, rfl⟩ | ⟨y, hy, rfl, rfl⟩
    · omega
    · exact hcb y hy e.1
  · intro e
    simp only [Addr.mk.injEq] at e
    rcases hp with ⟨rfl, rfl⟩ | ⟨z, hz, rfl, rfl⟩
    · exact hcb y hy e.1.symm
    · omega

theorem Ring.drew {w w' : World} {cb : Nat} {L : List Nd} (h : Ring w w' cb L) : Ring w w'.drew cb L := ⟨h.chg.trans (Chg.drew _ _), h.own, h.shp, h.pay⟩

theorem Path.drew {w : World} : ∀ {l : List Addr} {a z : Addr}, Path w a l z → Path w.drew a l z
  | [], _, _, h => h
  | _ :: _, _, _, h => ⟨h.1, Path.drew h.2⟩

theorem LS.cbne {w : World} {cb : Nat} {L : List Nd} (h : LS w cb L) : ∀ y ∈ L, y.b ≠ cb := by
  intro y hy e
  have := h.ok
  rw [List.nodup_cons] at this
  exact this.1 (e ▸ List.mem_map.2 ⟨y, hy, rfl⟩)

/-- 'unlink' of a page of the ring. -/
theorem LS.unlink {w : World} {cb : Nat} {l1 l2 : List Nd} {x : Nd} (h : LS w cb (l1 ++ x :: l2)) :
    Calls Yba.prog 17 #[.pointer (some ⟨x.b, 0, none⟩)] w fun e w' => e = .returned (.tuple #[]) ∧ LS w' cb (l1 ++ l2) ∧ Ring w w' cb (l1 ++ x :: l2) := by
  have hp := h.path
  have hok := h.blocks
  rw [List.map_append, List.map_cons] at hp hok
  have hs := (Path.split _ _ _ _ _).1 hp
  obtain ⟨pb, po, ep, fp⟩ := lastA_form cb l1
  obtain ⟨nb, no, en, fn⟩ := headA_form cb l2
  have c2 := hs.1.pv_end
  have c3 := hs.2.nx_start
  rw [ep] at c2
  rw [en] at c3
  have fp' : (pb = cb ∧ po = 4) ∨ ∃ y ∈ l1 ++ x :: l2, pb = y.b ∧ po = 0 := fp.imp id (fun ⟨y, hy, e⟩ => ⟨y, by simp [hy], e⟩)
  have fn' : (nb = cb ∧ no = 4) ∨ ∃ y ∈ l1 ++ x :: l2, nb = y.b ∧ no = 0 := fn.imp id (fun ⟨y, hy, e⟩ => ⟨y, by simp [hy], e⟩)
  have cellOf : ∀ {qb qo : Nat}, ((qb = cb ∧ qo = 4) ∨ ∃ y ∈ l1 ++ x :: l2, qb = y.b ∧ qo = 0) → ∀ k, k < 4 → (∃ v, w.cell? ⟨qb, qo + k, none⟩ = some v) ∧ w.frozen? ⟨qb, qo + k, none⟩ = false := by
    intro qb qo hq k hk
    rcases hq with ⟨rfl, rfl⟩ | ⟨y, hy, rfl, rfl⟩
    · exact ⟨h.shp.cell (by omega), h.shp.free _⟩
    · exact ⟨(h.nodes y hy).1.cell (by omega), (h.nodes y hy).1.free _⟩
  obtain ⟨⟨u1, d1⟩, f1⟩ := cellOf fp' 3 (by omega)
  obtain ⟨⟨u2, d2⟩, f2⟩ := cellOf fn' 2 (by omega)
  have hne : ¬ (pb = nb ∧ po + 3 = no + 2) := by
    rintro ⟨rfl, e⟩
    rcases fp' with ⟨e1, rfl⟩ | ⟨y, hy, e1, rfl⟩
    · rcases fn' with ⟨_, rfl⟩ | ⟨z, hz, _, rfl⟩ <;> omega
    · rcases fn' with ⟨e2, rfl⟩ | ⟨z, hz, _, rfl⟩
      · omega
      · omega
  refine (unlink_any x.b pb po nb no w c2 c3 u1 u2 d1 d2 f1 f2 hne).mono ?_
  rintro e w' ⟨rfl, rfl⟩
  have hr : Ring w ((w.setCell ⟨pb, po + 3, none⟩ (.pointer (some ⟨nb, no, none⟩))).setCell ⟨nb, no + 2, none⟩ (.pointer (some ⟨pb, po, none⟩))).drew cb (l1 ++ x :: l2) :=
    ((Ring.store fp' h.cbne 3 (Or.inr rfl) _).trans (Ring.store fn' h.cbne 2 (Or.inl rfl) _)).drew
  refine ⟨rfl, ⟨hr.shp _ _ _ h.shp, ?_, ?_, ?_⟩, hr⟩
  · have := Path.unlink hp hok
    rw [ep, en] at this
    rw [List.map_append]
    exact this.drew
  · intro y hy
    have hy' : y ∈ l1 ++ x :: l2 := by simp at hy ⊢; rcases hy with h | h; exact Or.inl h; exact Or.inr (Or.inr h)
    obtain ⟨q1, q2, q3⟩ := h.nodes y hy'
    exact ⟨hr.shp _ _ _ q1, (hr.pay y hy' 0 (by omega)).trans q2, (hr.pay y hy' 1 (by omega)).trans q3⟩
  · have := h.ok
    refine this.sublist ?_
    rw [List.map_append, List.map_append, List.map_cons]
    exact List.Sublist.cons_cons _ (List.Sublist.append (List.Sublist.refl _) (List.sublist_cons_self _ _))

/-- 'pushFront' of a page that is not in the ring. -/
theorem LS.push {w : World} {cb : Nat} {L : List Nd} {x : Nd} (h : LS w cb L) (hx : Shape w x.b 46 4) (hx0 : w.cell? ⟨x.b, 0, none⟩ = some (.int .i64 x.n)) (hx1 : w.cell? ⟨x.b, 1, none⟩ = some x.pg) (hnew : ∀ y ∈ L, y.b ≠ x.b) :
    Calls Yba.prog 18 #[.pointer (some ⟨cb, 0, none⟩), .pointer (some ⟨x.b, 0, none⟩)] w fun e w' => e = .returned (.tuple #[]) ∧ LS w' cb (x :: L) ∧ Ring w w' cb (x :: L) := by
  have hxc : x.b ≠ cb := by
    intro e
    have h1 := hx
    rw [e] at h1
    have := h.shp.kind h1
    cases this
  have hp := h.path
  obtain ⟨fb, fo, ef, ff⟩ := headA_form cb L
  have c7 := hp.nx_start
  rw [ef] at c7
  have ff' : (fb = cb ∧ fo = 4) ∨ ∃ y ∈ x :: L, fb = y.b ∧ fo = 0 := ff.imp id (fun ⟨y, hy, e⟩ => ⟨y, by simp [hy], e⟩)
  have hbf : x.b ≠ fb := by
    rcases ff with ⟨rfl, _⟩ | ⟨y, hy, rfl, _⟩
    · exact hxc
    · exact (hnew y hy).symm
  have hfo : fb = cb → fo = 4 := by
    intro e
    rcases ff with ⟨_, h4⟩ | ⟨y, hy, e2, _⟩
    · exact h4
    · exact absurd (e2.symm.trans e) (h.cbne y hy)
  obtain ⟨u1, d1⟩ := hx.cell (o := 2) (by omega)
  obtain ⟨u2, d2⟩ := hx.cell (o := 3) (by omega)
  have hf : (∃ v, w.cell? ⟨fb, fo + 2, none⟩ = some v) ∧ w.frozen? ⟨fb, fo + 2, none⟩ = false := by
    rcases ff with ⟨rfl, rfl⟩ | ⟨y, hy, rfl, rfl⟩
    · exact ⟨h.shp.cell (by omega), h.shp.free _⟩
    · exact ⟨(h.nodes y hy).1.cell (by omega), (h.nodes y hy).1.free _⟩
  obtain ⟨⟨u3, d3⟩, f3⟩ := hf
  refine (push_any cb x.b fb fo w hxc hbf hfo c7 u1 u2 u3 d1 d2 d3 (hx.free _) (hx.free _) f3 (h.shp.free _)).mono ?_
  rintro e w' ⟨rfl, rfl⟩
  have hcb' : ∀ y ∈ x :: L, y.b ≠ cb := by
    intro y hy
    rcases List.mem_cons.1 hy with rfl | hy
    · exact hxc
    · exact h.cbne y hy
  have sx : (x.b = cb ∧ (0 : Nat) = 4) ∨ ∃ y ∈ x :: L, x.b = y.b ∧ (0 : Nat) = 0 := Or.inr ⟨x, by simp, rfl, rfl⟩
  have sc : (cb = cb ∧ (4 : Nat) = 4) ∨ ∃ y ∈ x :: L, cb = y.b ∧ (4 : Nat) = 0 := Or.inl ⟨rfl, rfl⟩
  have r1 := Ring.store (w := w) (po := 0) sx hcb' 2 (Or.inl rfl) (.pointer (some ⟨cb, 4, none⟩))
  have r2 := r1.trans (Ring.store (po := 0) sx hcb' 3 (Or.inr rfl) (.pointer (some ⟨fb, fo, none⟩)))
  have r3 := r2.trans (Ring.store ff' hcb' 2 (Or.inl rfl) (.pointer (some ⟨x.b, 0, none⟩)))
  have r4 := (r3.trans (Ring.store (po := 4) sc hcb' 3 (Or.inr rfl) (.pointer (some ⟨x.b, 0, none⟩)))).drew
  have hok : (((⟨cb, 4, none⟩ : Addr) :: x.addr :: L.map Nd.addr).map Addr.block).Nodup := by
    have e1 : (((⟨cb, 4, none⟩ : Addr) :: x.addr :: L.map Nd.addr).map Addr.block) = cb :: x.b :: L.map Nd.b := by simp [Function.comp_def]
    rw [e1]
    have h0 := h.ok
    rw [List.nodup_cons] at h0
    rw [List.nodup_cons, List.nodup_cons]
    refine ⟨fun hm => ?_, fun hm => ?_, h0.2⟩
    · rcases List.mem_cons.1 hm with e | hm
      · exact hxc e.symm
      · exact h0.1 hm
    · obtain ⟨y, hy, e⟩ := List.mem_map.1 hm
      exact hnew y hy e
  have hpush := Path.push hp hok d1 d2
  rw [ef] at hpush
  refine ⟨rfl, ⟨r4.shp _ _ _ h.shp, hpush.drew, ?_, ?_⟩, r4⟩
  · intro y hy
    rcases List.mem_cons.1 hy with rfl | hy'
    · exact ⟨r4.shp _ _ _ hx, (r4.pay y hy 0 (by omega)).trans hx0, (r4.pay y hy 1 (by omega)).trans hx1⟩
    · obtain ⟨q1, q2, q3⟩ := h.nodes y hy'
      exact ⟨r4.shp _ _ _ q1, (r4.pay y hy 0 (by omega)).trans q2, (r4.pay y hy 1 (by omega)).trans q3⟩
  · have e1 : (((⟨cb, 4, none⟩ : Addr) :: x.addr :: L.map Nd.addr).map Addr.block) = cb :: (x :: L).map Nd.b := by simp [Function.comp_def]
    rw [← e1]; exact hok
end Go.Proofs.Ybulkamoo
