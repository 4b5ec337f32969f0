/-
  OUR OWN. The contracts of '(*pageCache).put' (8), way by way.
-/
import Derived.Test.YbulkamooCache
import Derived.Deep.DeepCutAuto
namespace Go.Proofs.Ybulkamoo
open Go.RowKit Go.MuLone
set_option linter.unusedVariables false

theorem CS.len_run {B : Nat} {w w' : World} {cb mb lim : Nat} {L : List Nd} (h : CS B w cb mb lim L) (hb : w'.heap[mb]? = w.heap[mb]?) : (Builtin.len_ #[43] 3 #[.map (some mb)]).run Yba.prog w' = .ok (.int .i64 (L.length : Nat)) w' := by
  obtain ⟨Lm, hm, hp⟩ := h.map
  have := (hm.of_block hb).len (P := Yba.prog) Yba.underlying43 3
  rw [hp.length_eq] at this
  simpa [ents] using this

set_option maxRecDepth 20000 in
set_option maxHeartbeats 800000 in
theorem put_none {B : Nat} {w : World} {cb mb lim : Nat} {L : List Nd} (h : CS B w cb mb lim L) (n : Int) (pa : Option Addr) (pl pc : Nat) (hz : lim = 0 ∨ ∃ x ∈ L, x.n = n) :
    Calls Yba.prog 8 #[.pointer (some ⟨cb, 0, none⟩), .int .i64 n, .slice pa pl pc] w fun e w' => e = .returned (.tuple #[]) ∧ CS B w' cb mb lim L ∧ Chg (CT cb mb L) w w' := by
  have c0 := h.c0
  have f0 := h.ls.shp.free 0
  have c2 := h.c2
  have c3 := h.c3
  have hm := h.mbne
  have H := h
  by_cases hl0 : lim = 0
  · subst hl0
    clear h
    go_enter_defers Yba.func8, Yba.ntmps8
    go_wp2_with (go_at_call 15; refine (lock_free Yba.muLib ⟨cb, 0, none⟩ _ c0 f0).mono ?_; rintro e w' ⟨rfl, rfl⟩)
    refine leaves_cons (f := 16) (args := #[.pointer (some ⟨cb, 0, none⟩)]) (by simp) (by simp [go_sem]) ?_
    refine (unlock_deferred Yba.muLib ⟨cb, 0, none⟩ .returning _ (cell_now ⟨_, c0⟩) (by simp [f0])).mono ?_
    rintro e u' w'' ⟨rfl, rfl, rfl⟩
    exact ⟨_, results_none rfl _ _ _, rfl, H.locked _, (Chg.setCell _ _ _ _ (Or.inl rfl)).trans (Chg.setCell _ _ _ _ (Or.inl rfl))⟩
  · obtain ⟨x, hx, rfl⟩ : ∃ x ∈ L, x.n = n := by rcases hz with hz | hz; exact absurd hz hl0; exact hz
    have hl : (Instr.lookup 43 (.map (some mb)) (.int .i64 x.n) false).run Yba.prog (w.setCell ⟨cb, 0, none⟩ (.int .i32 1)) = .ok (.pointer (some ⟨x.b, 0, none⟩)) (w.setCell ⟨cb, 0, none⟩ (.int .i32 1)) := h.look_hit (heap_setCell_other _ _ _ _ hm.1) hx
    have hg : ((lim : Int) == 0) = false := by rw [beq_eq_false_iff_ne]; omega
    clear h hz hl0
    go_enter_defers Yba.func8, Yba.ntmps8
    go_wp2_with (go_at_call 15; refine (lock_free Yba.muLib ⟨cb, 0, none⟩ _ c0 f0).mono ?_; rintro e w' ⟨rfl, rfl⟩)
    refine leaves_cons (f := 16) (args := #[.pointer (some ⟨cb, 0, none⟩)]) (by simp) (by simp [go_sem]) ?_
    refine (unlock_deferred Yba.muLib ⟨cb, 0, none⟩ .returning _ (cell_now ⟨_, c0⟩) (by simp [f0])).mono ?_
    rintro e u' w'' ⟨rfl, rfl, rfl⟩
    exact ⟨_, results_none rfl _ _ _, rfl, H.locked _, (Chg.setCell _ _ _ _ (Or.inl rfl)).trans (Chg.setCell _ _ _ _ (Or.inl rfl))⟩

/-- The cache while its lock is held, the map aside. -/
structure CH (B : Nat) (w : World) (cb mb lim : Nat) (L : List Nd) : Prop where
  ls : LS w cb L
  c0 : w.cell? ⟨cb, 0, none⟩ = some (.int .i32 1)
  c2 : w.cell? ⟨cb, 2, none⟩ = some (.int .i64 lim)
  c3 : w.cell? ⟨cb, 3, none⟩ = some (.map (some mb))
theorem CS.held {B : Nat} {w : World} {cb mb lim : Nat} {L : List Nd} (h : CS B w cb mb lim L) : CH B (w.setCell ⟨cb, 0, none⟩ (.int .i32 1)) cb mb lim L :=
  ⟨h.ls.setOwn 0 (by omega) _, cell_now ⟨_, h.c0⟩, cell_off (by simp) h.c2, cell_off (by simp) h.c3⟩
theorem CH.kept {B : Nat} {S : Nat → Prop} {w w' : World} {cb mb lim : Nat} {L : List Nd} (h : CH B w cb mb lim L) (hc : Chg S w w') (h1 : ¬ S cb) (h2 : ∀ y ∈ L, ¬ S y.b) : CH B w' cb mb lim L :=
  ⟨h.ls.kept hc h1 h2, hc.cell h.c0 h1, hc.cell h.c2 h1, hc.cell h.c3 h1⟩
theorem CH.ring {B : Nat} {w w' : World} {cb mb lim : Nat} {L L' L2 : List Nd} (h : CH B w cb mb lim L) (hr : Ring w w' cb L2) (hl : LS w' cb L') : CH B w' cb mb lim L' :=
  ⟨hl, hr.ownCell (by omega) h.c0, hr.ownCell (by omega) h.c2, hr.ownCell (by omega) h.c3⟩

theorem put_final {B : Nat} {w : World} {cb mb lim : Nat} {L : List Nd} (hh : CH B w cb mb lim L) (hm : ∃ Lm, MapIs w mb (Value.int .i64) Lm ∧ Lm.Perm (ents L)) (hk : (L.map Nd.n).Nodup) (hl : L.length ≤ lim) (hp : ∀ x ∈ L, ∃ a l c, x.pg = .slice a l c) (hb : B ≤ cb ∧ B ≤ mb ∧ ∀ x ∈ L, B ≤ x.b) (hne : mb ≠ cb) :
    CS B (w.setCell ⟨cb, 0, none⟩ (.int .i32 0)) cb mb lim L := by
  obtain ⟨Lm, h1, h2⟩ := hm
  exact ⟨hh.ls.setOwn 0 (by omega) _, cell_now ⟨_, hh.c0⟩, cell_off (by simp) hh.c2, cell_off (by simp) hh.c3, ⟨Lm, h1.kept (Chg.setCell (fun i => i = cb) _ _ _ rfl) hne, h2⟩, hk, hl, hp, hb⟩

/-- What stands when the map is about to take the new page x. -/
structure Ready (B : Nat) (w : World) (cb mb lim : Nat) (L : List Nd) (x : Nd) : Prop where
  ch : CH B w cb mb lim L
  shp : Shape w x.b 46 4
  c0 : w.cell? ⟨x.b, 0, none⟩ = some (.int .i64 x.n)
  c1 : w.cell? ⟨x.b, 1, none⟩ = some x.pg
  map : ∃ Lm, MapIs w mb (Value.int .i64) Lm ∧ Lm.Perm (ents L)
  new : ∀ y ∈ L, y.b ≠ x.b
  key : ∀ y ∈ L, y.n ≠ x.n
  keys : (L.map Nd.n).Nodup
  len : L.length < lim
  pgs : ∀ y ∈ L, ∃ a l c, y.pg = .slice a l c
  pg : ∃ a l c, x.pg = .slice a l c
  base : B ≤ cb ∧ B ≤ mb ∧ B ≤ x.b ∧ ∀ y ∈ L, B ≤ y.b
  mbne : mb ≠ cb

theorem Ready.put {B : Nat} {w : World} {cb mb lim : Nat} {L : List Nd} {x : Nd} (h : Ready B w cb mb lim L x) :
    ∃ w4, (Instr.mapUpdate 43 (.map (some mb)) (.int .i64 x.n) (.pointer (some ⟨x.b, 0, none⟩))).run Yba.prog w = .ok () w4 ∧ Chg (fun i => i = mb) w w4 ∧ CH B w4 cb mb lim L ∧ Shape w4 x.b 46 4 ∧ w4.cell? ⟨x.b, 0, none⟩ = some (.int .i64 x.n) ∧ w4.cell? ⟨x.b, 1, none⟩ = some x.pg ∧
      ∃ Lm, MapIs w4 mb (Value.int .i64) Lm ∧ Lm.Perm (ents (x :: L)) := by
  obtain ⟨Lm, hm, hp⟩ := h.map
  obtain ⟨w4, hr, hm4, hc4⟩ := hm.put_new (intKey Yba.underlying2) Yba.underlying43 x.n (.pointer (some ⟨x.b, 0, none⟩)) (fun p hp' => by
    obtain ⟨y, hy, rfl⟩ := List.mem_map.1 (hp.mem_iff.1 hp')
    exact h.key y hy)
  have hn : ∀ b t n, Shape w b t n → b ≠ mb := by
    intro b t n ⟨c, hc, _⟩ e
    rw [e] at hc
    exact hm.notCells hc
  have hx := hn _ _ _ h.shp
  refine ⟨w4, hr, hc4, h.ch.kept hc4 (fun e => h.mbne e.symm) (fun y hy => hn _ _ _ (h.ch.ls.nodes y hy).1), h.shp.kept hc4 hx, hc4.cell h.c0 hx, hc4.cell h.c1 hx, _, hm4, ?_⟩
  exact (List.perm_append_comm.trans (List.Perm.cons _ hp))

theorem Ready.final {B : Nat} {w w4 w5 : World} {cb mb lim : Nat} {L : List Nd} {x : Nd} (h : Ready B w cb mb lim L x) (h4 : CH B w4 cb mb lim L) (hm : ∃ Lm, MapIs w4 mb (Value.int .i64) Lm ∧ Lm.Perm (ents (x :: L))) (hx4 : Shape w4 x.b 46 4) (hl : LS w5 cb (x :: L)) (hr : Ring w4 w5 cb (x :: L)) :
    CS B (w5.setCell ⟨cb, 0, none⟩ (.int .i32 0)) cb mb lim (x :: L) := by
  obtain ⟨Lm, hm1, hp⟩ := hm
  refine put_final (h4.ring hr hl) ⟨Lm, hr.mapIs hm1 h.mbne ?_, hp⟩ ?_ ?_ ?_ ?_ h.mbne
  · intro y hy e
    have hs4 : Shape w4 y.b 46 4 := by
      rcases List.mem_cons.1 hy with rfl | hy
      · exact hx4
      · exact (h4.ls.nodes y hy).1
    obtain ⟨c, hc, _⟩ := hs4
    rw [e] at hc
    exact hm1.notCells hc
  · rw [List.map_cons, List.nodup_cons]
    exact ⟨fun hm => by obtain ⟨y, hy, e⟩ := List.mem_map.1 hm; exact h.key y hy e, h.keys⟩
  · have := h.len; simp; omega
  · intro y hy; rcases List.mem_cons.1 hy with rfl | hy; exact h.pg; exact h.pgs y hy
  · refine ⟨h.base.1, h.base.2.1, fun y hy => ?_⟩
    rcases List.mem_cons.1 hy with rfl | hy; exact h.base.2.2.1; exact h.base.2.2.2 y hy

abbrev node (n : Int) (pg : Value) : Obj := .cells #[.int .i64 n, pg, .pointer none, .pointer none] 46

set_option maxRecDepth 20000 in
set_option maxHeartbeats 800000 in
theorem put_room {B : Nat} {w : World} {cb mb lim : Nat} {L : List Nd} (h : CS B w cb mb lim L) (n : Int) (pa : Option Addr) (pl pc : Nat) (hl0 : L.length < lim) (hlim : lim ≤ 127) (hn : ∀ x ∈ L, x.n ≠ n) (hB : B ≤ w.heap.size) :
    Calls Yba.prog 8 #[.pointer (some ⟨cb, 0, none⟩), .int .i64 n, .slice pa pl pc] w fun e w' => e = .returned (.tuple #[]) ∧ ∃ b, w.heap.size ≤ b ∧ CS B w' cb mb lim (⟨b, n, .slice pa pl pc⟩ :: L) ∧ Chg (CT cb mb L) w w' := by
  have c0 := h.c0
  have f0 := h.ls.shp.free 0
  have c2 := h.c2
  have c3 := h.c3
  have hm := h.mbne
  have hl : (Instr.lookup 43 (.map (some mb)) (.int .i64 n) false).run Yba.prog (w.setCell ⟨cb, 0, none⟩ (.int .i32 1)) = .ok (.pointer none) (w.setCell ⟨cb, 0, none⟩ (.int .i32 1)) := h.look_miss (heap_setCell_other _ _ _ _ hm.1) hn
  have hg : ((lim : Int) == 0) = false := by rw [beq_eq_false_iff_ne]; omega
  have hg2 : ((L.length : Int) == (lim : Int)) = false := by rw [beq_eq_false_iff_ne]; omega
  have hcb : cb < w.heap.size := h.ls.shp.lt
  have hlen : ∀ N o, (Builtin.len_ #[43] 3 #[.map (some mb)]).run Yba.prog (((w.setCell ⟨cb, 0, none⟩ (.int .i32 1)).alloc o).drewN N) = .ok (.int .i64 (L.length : Nat)) (((w.setCell ⟨cb, 0, none⟩ (.int .i32 1)).alloc o).drewN N) := fun N o => by
    obtain ⟨Lm, hmm, _⟩ := h.map
    exact h.len_run ((Below.heap_alloc _ _ _ (by simpa using hmm.lt)).trans (heap_setCell_other _ _ _ _ hm.1))
  have HS : Hid (CS B w cb mb lim L) := h
  clear h
  go_enter_defers Yba.func8, Yba.ntmps8
  go_wp2_with (go_at_call 15; refine (lock_free Yba.muLib ⟨cb, 0, none⟩ _ c0 f0).mono ?_; rintro e w' ⟨rfl, rfl⟩)
  have hh2 : CH B ((w.setCell ⟨cb, 0, none⟩ (.int .i32 1)).alloc (node n (.slice none 0 0))) cb mb lim L := HS.out.held.kept (Chg.alloc (fun _ => False) _ _) (fun h => h) (fun _ _ h => h)
  have hmap2 : ∃ Lm, MapIs ((w.setCell ⟨cb, 0, none⟩ (.int .i32 1)).alloc (node n (.slice none 0 0))) mb (Value.int .i64) Lm ∧ Lm.Perm (ents L) := by
    obtain ⟨Lm, hmm, hp⟩ := HS.out.map
    exact ⟨Lm, (hmm.kept (Chg.setCell (fun i => i = cb) _ _ _ rfl) hm.1).kept (Chg.alloc (fun _ => False) _ _) (fun h => h), hp⟩
  have hnew2 : ((w.setCell ⟨cb, 0, none⟩ (.int .i32 1)).alloc (node n (.slice none 0 0))).heap[w.heap.size]? = some (node n (.slice none 0 0)) := by
    have := heap_alloc_new (w.setCell ⟨cb, 0, none⟩ (.int .i32 1)) (node n (.slice none 0 0))
    simpa using this
  have hchg2 : Chg (fun i => i = cb) w ((w.setCell ⟨cb, 0, none⟩ (.int .i32 1)).alloc (node n (.slice none 0 0))) := (Chg.setCell (fun i => i = cb) _ _ _ rfl).trans (Chg.alloc _ _ _)
  have hlen2 : ∀ N, (Builtin.len_ #[43] 3 #[.map (some mb)]).run Yba.prog (((w.setCell ⟨cb, 0, none⟩ (.int .i32 1)).alloc (node n (.slice none 0 0))).drewN N) = .ok (.int .i64 (L.length : Nat)) (((w.setCell ⟨cb, 0, none⟩ (.int .i32 1)).alloc (node n (.slice none 0 0))).drewN N) := fun N => hlen N _
  clear hlen c0 f0 c2 c3 hl
  generalize (w.setCell ⟨cb, 0, none⟩ (.int .i32 1)).alloc (node n (.slice none 0 0)) = w2 at *
  have c2 := hh2.c2
  have c3 := hh2.c3
  go_quiet (fail)
  clear hlen2 c2 c3
  have b0 : w2.cell? ⟨w.heap.size, 1, none⟩ = some (.slice none 0 0) := by rw [cell_of_row _ _ _ _ _ _ hnew2]; rfl
  have b1 : w2.frozen? ⟨w.heap.size, 1, none⟩ = false := frozen_of_row _ _ _ _ _ hnew2
  go_upto_region 10 with fail
  have hch3 : Chg (fun i => i = w.heap.size) w2 ((w2.drewN nq).setCell ⟨w.heap.size, 1, none⟩ (.slice pa pl pc)) := (Chg.drewN _ _ _).trans (Chg.setCell _ _ _ _ rfl)
  have hcn : ∀ y ∈ L, y.b ≠ w.heap.size := fun y hy => Nat.ne_of_lt (HS.out.ls.nodes y hy).1.lt
  have hrd : Ready B ((w2.drewN nq).setCell ⟨w.heap.size, 1, none⟩ (.slice pa pl pc)) cb mb lim L ⟨w.heap.size, n, .slice pa pl pc⟩ := by
    have hrow : ((w2.drewN nq).setCell ⟨w.heap.size, 1, none⟩ (.slice pa pl pc)).heap[w.heap.size]? = some (node n (.slice pa pl pc)) := heap_setCell_same (w2.drewN nq) w.heap.size 1 _ _ (.slice pa pl pc) hnew2
    obtain ⟨Lm, hmm, hp⟩ := hmap2
    have hmb : mb < w.heap.size := by obtain ⟨Lm0, hm0, _⟩ := HS.out.map; exact hm0.lt
    refine ⟨hh2.kept hch3 (by show ¬ cb = w.heap.size; omega) hcn, ⟨_, hrow, rfl⟩, by rw [cell_of_row _ _ _ _ _ _ hrow]; rfl, by rw [cell_of_row _ _ _ _ _ _ hrow]; rfl, ⟨Lm, hmm.kept hch3 (by show ¬ mb = w.heap.size; omega), hp⟩, hcn, hn, HS.out.keys, hl0, HS.out.pgs, ⟨_, _, _, rfl⟩, ⟨HS.out.base.1, HS.out.base.2.1, hB, HS.out.base.2.2⟩, hm.1⟩
  have hchg3 : Chg (fun i => i = cb) w ((w2.drewN nq).setCell ⟨w.heap.size, 1, none⟩ (.slice pa pl pc)) := hchg2.then hch3 (fun i hi => Or.inr (by omega))
  clear hh2 hmap2 hnew2 hchg2 b0 b1 hch3
  generalize (w2.drewN nq).setCell ⟨w.heap.size, 1, none⟩ (.slice pa pl pc) = w3 at *
  obtain ⟨w4, hput, hc4, hh4, hs4, p0, p1, hm4⟩ := hrd.put
  have c3 := hrd.ch.c3
  go_wp2_with fail
  refine Calls.mono (hh4.ls.push (x := ⟨w.heap.size, n, .slice pa pl pc⟩) hs4 p0 p1 hrd.new) ?_
  rintro e w5 ⟨rfl, hls5, hr5⟩
  have hfin := hrd.final hh4 hm4 hs4 hls5 hr5
  have d0 := hr5.ownCell (o := 0) (by omega) hh4.c0
  have f5 := hls5.shp.free 0
  go_wp2
  refine leaves_cons (f := 16) (args := #[.pointer (some ⟨cb, 0, none⟩)]) (by simp) (by simp [go_sem]) ?_
  refine (unlock_deferred Yba.muLib ⟨cb, 0, none⟩ .returning _ d0 f5).mono ?_
  rintro e u' w'' ⟨rfl, rfl, rfl⟩
  refine ⟨_, results_none rfl _ _ _, rfl, w.heap.size, Nat.le_refl _, hfin, ?_⟩
  refine (((hchg3.mono (fun i hi => Or.inl hi)).trans (hc4.mono (fun i hi => Or.inr (Or.inl hi)))).then hr5.chg ?_).trans (Chg.setCell _ _ _ _ (Or.inl rfl))
  rintro i (rfl | ⟨y, hy, rfl⟩)
  · exact Or.inl (Or.inl rfl)
  · rcases List.mem_cons.1 hy with rfl | hy
    · exact Or.inr (Nat.le_refl _)
    · exact Or.inl (Or.inr (Or.inr ⟨y, hy, rfl⟩))

theorem erase_perm {α : Type} : ∀ (l : List α) (j : Nat) (x : α), l[j]? = some x → (x :: l.eraseIdx j).Perm l
  | [], _, _, h => by simp at h
  | a :: l, 0, x, h => by simp at h; subst h; exact List.Perm.refl _
  | a :: l, j + 1, x, h => by
    simp only [List.getElem?_cons_succ] at h
    simp only [List.eraseIdx_cons_succ]
    exact (List.Perm.swap a x _).trans (List.Perm.cons a (erase_perm l j x h))

/-- 'delete(m, k)' where k is there, whatever the operation's own type word. -/
theorem MapIs.drop_any {P : Program} {kt : TypeId} {kv : Int → Value} {w : World} {b : Nat} {L : List (Int × Value)} (h : MapIs w b kv L) (ko : KeyOk P kt kv) {t e : TypeId} (ht : P.underlying t = some (.map kt e)) (k : Int) (hn : (L.map (·.1)).Nodup) (j : Nat) (v0 : Value) (hj : L[j]? = some (k, v0)) :
    ∃ w', (∀ ty, (Builtin.delete_ #[t, kt] ty #[.map (some b), kv k]).run P w = .ok (.tuple #[]) w') ∧ MapIs w' b kv (L.eraseIdx j) ∧ Chg (fun i => i = b) w w' := by
  obtain ⟨w', h1, h2, h3⟩ := h.drop ko ht 0 k hn j v0 hj
  exact ⟨w', fun ty => h1, h2, h3⟩

theorem drop_perm {Lm : List (Int × Value)} {l1 l2 : List Nd} {x : Nd} (hp : Lm.Perm (ents (l1 ++ x :: l2))) : ∃ (j : Nat) (v : Value), Lm[j]? = some (x.n, v) ∧ (Lm.eraseIdx j).Perm (ents (l1 ++ l2)) := by
  have hm : (x.n, Value.pointer (some ⟨x.b, 0, none⟩)) ∈ Lm := hp.mem_iff.2 (List.mem_map.2 ⟨x, by simp, rfl⟩)
  obtain ⟨j, hj⟩ := List.mem_iff_getElem?.1 hm
  refine ⟨j, _, hj, ?_⟩
  have h1 := erase_perm Lm j _ hj
  have h2 : (ents (l1 ++ x :: l2)).Perm ((x.n, Value.pointer (some ⟨x.b, 0, none⟩)) :: ents (l1 ++ l2)) := by
    simp only [ents, List.map_append, List.map_cons]
    exact List.perm_middle
  exact (List.perm_cons _).1 (h1.trans (hp.trans h2))

set_option maxRecDepth 20000 in
set_option maxHeartbeats 800000 in
theorem put_evict {B : Nat} {w : World} {cb mb lim : Nat} {L : List Nd} {y : Nd} (h : CS B w cb mb lim (L ++ [y])) (n : Int) (pa : Option Addr) (pl pc : Nat) (hl0 : L.length + 1 = lim) (hlim : lim ≤ 127) (hn : ∀ x ∈ L ++ [y], x.n ≠ n) (hB : B ≤ w.heap.size) :
    Calls Yba.prog 8 #[.pointer (some ⟨cb, 0, none⟩), .int .i64 n, .slice pa pl pc] w fun e w' => e = .returned (.tuple #[]) ∧ CS B w' cb mb lim (⟨y.b, n, .slice pa pl pc⟩ :: L) ∧ Chg (CT cb mb (L ++ [y])) w w' := by
  have c0 := h.c0
  have f0 := h.ls.shp.free 0
  have c2 := h.c2
  have c3 := h.c3
  have hm := h.mbne
  have hl : (Instr.lookup 43 (.map (some mb)) (.int .i64 n) false).run Yba.prog (w.setCell ⟨cb, 0, none⟩ (.int .i32 1)) = .ok (.pointer none) (w.setCell ⟨cb, 0, none⟩ (.int .i32 1)) := h.look_miss (heap_setCell_other _ _ _ _ hm.1) hn
  have hg : ((lim : Int) == 0) = false := by rw [beq_eq_false_iff_ne]; omega
  have hcb : cb < w.heap.size := h.ls.shp.lt
  have hlen : ∀ N o, (Builtin.len_ #[43] 3 #[.map (some mb)]).run Yba.prog (((w.setCell ⟨cb, 0, none⟩ (.int .i32 1)).alloc o).drewN N) = .ok (.int .i64 lim) (((w.setCell ⟨cb, 0, none⟩ (.int .i32 1)).alloc o).drewN N) := fun N o => by
    obtain ⟨Lm, hmm, _⟩ := h.map
    have := h.len_run (w' := ((w.setCell ⟨cb, 0, none⟩ (.int .i32 1)).alloc o).drewN N) ((Below.heap_alloc _ _ _ (by simpa using hmm.lt)).trans (heap_setCell_other _ _ _ _ hm.1))
    rw [List.length_append, List.length_singleton, hl0] at this
    exact this
  have HS : Hid (CS B w cb mb lim (L ++ [y])) := h
  have HL : Hid (L.length + 1 = lim) := hl0
  clear h hl0
  go_enter_defers Yba.func8, Yba.ntmps8
  go_wp2_with (go_at_call 15; refine (lock_free Yba.muLib ⟨cb, 0, none⟩ _ c0 f0).mono ?_; rintro e w' ⟨rfl, rfl⟩)
  have hh2 : CH B ((w.setCell ⟨cb, 0, none⟩ (.int .i32 1)).alloc (node n (.slice none 0 0))) cb mb lim (L ++ [y]) := HS.out.held.kept (Chg.alloc (fun _ => False) _ _) (fun h => h) (fun _ _ h => h)
  have hmap2 : ∃ Lm, MapIs ((w.setCell ⟨cb, 0, none⟩ (.int .i32 1)).alloc (node n (.slice none 0 0))) mb (Value.int .i64) Lm ∧ Lm.Perm (ents (L ++ [y])) := by
    obtain ⟨Lm, hmm, hp⟩ := HS.out.map
    exact ⟨Lm, (hmm.kept (Chg.setCell (fun i => i = cb) _ _ _ rfl) hm.1).kept (Chg.alloc (fun _ => False) _ _) (fun h => h), hp⟩
  have hchg2 : Chg (fun i => i = cb) w ((w.setCell ⟨cb, 0, none⟩ (.int .i32 1)).alloc (node n (.slice none 0 0))) := (Chg.setCell (fun i => i = cb) _ _ _ rfl).trans (Chg.alloc _ _ _)
  have hlen2 : ∀ N, (Builtin.len_ #[43] 3 #[.map (some mb)]).run Yba.prog (((w.setCell ⟨cb, 0, none⟩ (.int .i32 1)).alloc (node n (.slice none 0 0))).drewN N) = .ok (.int .i64 lim) (((w.setCell ⟨cb, 0, none⟩ (.int .i32 1)).alloc (node n (.slice none 0 0))).drewN N) := fun N => hlen N _
  clear hlen c0 f0 c2 c3 hl
  generalize (w.setCell ⟨cb, 0, none⟩ (.int .i32 1)).alloc (node n (.slice none 0 0)) = w2 at *
  have c2 := hh2.c2
  have c3 := hh2.c3
  have c6 : w2.cell? ⟨cb, 6, none⟩ = some (.pointer (some ⟨y.b, 0, none⟩)) := by
    have := hh2.ls.path.pv_end
    simpa [lastA] using this
  go_quiet (fail)
  clear hlen2
  go_wp2_with fail
  have hls2 : LS (w2.drewN nq) cb (L ++ y :: []) := hh2.ls.kept (Chg.drewN (fun _ => False) _ _) (fun h => h) (fun _ _ h => h)
  refine Calls.mono hls2.unlink ?_
  rintro e w3 ⟨rfl, hls3, hr3⟩
  rw [List.append_nil] at hls3
  have hh3 : CH B w3 cb mb lim L := (hh2.kept (Chg.drewN (fun _ => False) _ nq) (fun h => h) (fun _ _ h => h)).ring hr3 hls3
  have hym : y ∈ L ++ y :: [] := by simp
  obtain ⟨y1, y2, y3⟩ := hls2.nodes y hym
  have hy3 : Shape w3 y.b 46 4 := hr3.shp _ _ _ y1
  have n3 : w3.cell? ⟨y.b, 0, none⟩ = some (.int .i64 y.n) := (hr3.pay y hym 0 (by omega)).trans y2
  have p3 : w3.cell? ⟨y.b, 1, none⟩ = some y.pg := (hr3.pay y hym 1 (by omega)).trans y3
  obtain ⟨Lm, hmm, hp⟩ := hmap2
  have hmm3 := hr3.mapIs (hmm.kept (Chg.drewN (fun _ => False) _ nq) (fun h => h)) hm.1 hm.2
  obtain ⟨j, v, hj, hpe⟩ := drop_perm (l2 := []) hp
  rw [List.append_nil] at hpe
  obtain ⟨w4, hdel, hm4, hc4⟩ := (hmm3.kept (Chg.drew (fun _ => False) _) (fun h => h)).drop_any (intKey Yba.underlying2) Yba.underlying43 y.n (perm_keys hp HS.out.keys) j v hj
  have c33 := hh3.c3
  clear c2 c3 c6
  have hr3b : Chg (fun i => i = cb ∨ ∃ z ∈ L ++ [y], i = z.b) w w3 := ((hchg2.trans (Chg.drewN _ _ nq)).mono (fun i hi => Or.inl hi)).trans hr3.chg
  go_wp2_with fail
  have hsne : ∀ b t m, Shape w3 b t m → b ≠ mb := by
    intro b t m ⟨c, hc, _⟩ e
    rw [e] at hc
    exact hmm3.notCells hc
  have hh4 : CH B w4 cb mb lim L := (hh3.kept (Chg.drew (fun _ => False) _) (fun h => h) (fun _ _ h => h)).kept hc4 (fun e => hm.1 e.symm) (fun z hz => hsne _ _ _ (hls3.nodes z hz).1)
  have hy4 : Shape w4 y.b 46 4 := (hy3.kept (Chg.drew (fun _ => False) _) (fun h => h)).kept hc4 (hsne _ _ _ hy3)
  have n4 : w4.cell? ⟨y.b, 0, none⟩ = some (.int .i64 y.n) := hc4.cell n3 (hsne _ _ _ hy3)
  have p4 : w4.cell? ⟨y.b, 1, none⟩ = some y.pg := hc4.cell p3 (hsne _ _ _ hy3)
  have g0 := hy4.free 0
  have g1 := hy4.free 1
  go_region
  go_upto_region 10 with fail
  have hyne : ∀ z ∈ L, z.b ≠ y.b := by
    intro z hz e
    have hok := HS.out.ls.ok
    rw [List.nodup_cons, List.map_append, List.nodup_append] at hok
    exact hok.2.2.2 z.b (List.mem_map.2 ⟨z, hz, rfl⟩) y.b (by simp) e
  have hyc : y.b ≠ cb := HS.out.ls.cbne y (by simp)
  have hych : Chg (fun i => i = y.b) w4 ((w4.setCell ⟨y.b, 0, none⟩ (.int .i64 n)).setCell ⟨y.b, 1, none⟩ (.slice pa pl pc)) := (Chg.setCell (fun i => i = y.b) _ _ _ rfl).trans (Chg.setCell (fun i => i = y.b) _ _ _ rfl)
  have hrd : Ready B ((w4.setCell ⟨y.b, 0, none⟩ (.int .i64 n)).setCell ⟨y.b, 1, none⟩ (.slice pa pl pc)) cb mb lim L ⟨y.b, n, .slice pa pl pc⟩ := by
    have hk := HS.out.keys
    rw [List.map_append, List.nodup_append] at hk
    exact ⟨hh4.kept hych (fun e => hyc e.symm) hyne, (hy4.set _ _).set _ _, cell_off (by simp) (cell_now ⟨_, n4⟩), cell_now (cell_stays ⟨_, p4⟩), ⟨_, hm4.kept hych (fun e => hm.2 y (by simp) e.symm), hpe⟩, hyne, fun z hz => hn z (by simp [hz]), hk.1, by have := HL.out; omega,
      fun z hz => HS.out.pgs z (by simp [hz]), ⟨_, _, _, rfl⟩, ⟨HS.out.base.1, HS.out.base.2.1, HS.out.base.2.2 y (by simp), fun z hz => HS.out.base.2.2 z (by simp [hz])⟩, hm.1⟩
  have hall : Chg (CT cb mb (L ++ [y])) w ((w4.setCell ⟨y.b, 0, none⟩ (.int .i64 n)).setCell ⟨y.b, 1, none⟩ (.slice pa pl pc)) := by
    refine (((hr3b.mono ?_).trans (Chg.drew _ _)).trans (hc4.mono (fun i hi => Or.inr (Or.inl hi)))).trans (hych.mono (fun i hi => Or.inr (Or.inr ⟨y, by simp, hi⟩)))
    rintro i (hi | hi)
    · exact Or.inl hi
    · exact Or.inr (Or.inr hi)
  clear hh4 hy4 n4 p4 g0 g1 hych hm4 hc4 hdel hh3 hls3 hy3 n3 p3 hmm3 hmm hr3 hls2 hh2 c33
  generalize (w4.setCell ⟨y.b, 0, none⟩ (.int .i64 n)).setCell ⟨y.b, 1, none⟩ (.slice pa pl pc) = w5 at *
  obtain ⟨w6, hput, hc6, hh6, hs6, p0, p1, hm6⟩ := hrd.put
  have c3 := hrd.ch.c3
  go_wp2_with fail
  refine Calls.mono (hh6.ls.push (x := ⟨y.b, n, .slice pa pl pc⟩) hs6 p0 p1 hrd.new) ?_
  rintro e w7 ⟨rfl, hls7, hr7⟩
  have hfin := hrd.final hh6 hm6 hs6 hls7 hr7
  have d0 := hr7.ownCell (o := 0) (by omega) hh6.c0
  have f5 := hls7.shp.free 0
  go_wp2
  refine leaves_cons (f := 16) (args := #[.pointer (some ⟨cb, 0, none⟩)]) (by simp) (by simp [go_sem]) ?_
  refine (unlock_deferred Yba.muLib ⟨cb, 0, none⟩ .returning _ d0 f5).mono ?_
  rintro e u' w'' ⟨rfl, rfl, rfl⟩
  refine ⟨_, results_none rfl _ _ _, rfl, hfin, ?_⟩
  refine ((hall.trans (hc6.mono (fun i hi => Or.inr (Or.inl hi)))).trans (hr7.chg.mono ?_)).trans (Chg.setCell _ _ _ _ (Or.inl rfl))
  rintro i (rfl | ⟨z, hz, rfl⟩)
  · exact Or.inl rfl
  · rcases List.mem_cons.1 hz with rfl | hz
    · exact Or.inr (Or.inr ⟨y, by simp, rfl⟩)
    · exact Or.inr (Or.inr ⟨z, by simp [hz], rfl⟩)
end Go.Proofs.Ybulkamoo
