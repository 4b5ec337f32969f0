/-
  OUR OWN. The cache's state, and the contracts of '(*pageCache).get' (9) and 'drop' (11).
-/
import Derived.Test.YbulkamooRing
import Derived.Test.YbulkamooLocks
import Derived.Conc.MuLone
namespace Go.Proofs.Ybulkamoo
open Go.RowKit Go.MuLone
set_option linter.unusedVariables false

theorem Path.congr {w w' : World} : ∀ {l : List Addr} {a z : Addr}, Path w a l z → (∀ u ∈ a :: l, w'.cell? (nx u) = w.cell? (nx u)) → (∀ u ∈ l ++ [z], w'.cell? (pv u) = w.cell? (pv u)) → Path w' a l z
  | [], a, z, h, h1, h2 => ⟨(h1 a (by simp)).trans h.1, (h2 z (by simp)).trans h.2⟩
  | x :: l, a, z, h, h1, h2 => ⟨⟨(h1 a (by simp)).trans h.1.1, (h2 x (by simp)).trans h.1.2⟩, Path.congr h.2 (fun u hu => h1 u (List.mem_cons_of_mem _ hu)) (fun u hu => h2 u (by simp at hu ⊢; exact Or.inr hu))⟩

/-- The ring stands where its cells stand. -/
theorem LS.congr {w w' : World} {cb : Nat} {L : List Nd} (h : LS w cb L) (hs : ∀ b t n, (b = cb ∨ ∃ y ∈ L, b = y.b) → Shape w b t n → Shape w' b t n) (hc : ∀ o, 6 ≤ o → w'.cell? ⟨cb, o, none⟩ = w.cell? ⟨cb, o, none⟩) (hn : ∀ y ∈ L, ∀ o, w'.cell? ⟨y.b, o, none⟩ = w.cell? ⟨y.b, o, none⟩) : LS w' cb L := by
  refine ⟨hs _ _ _ (Or.inl rfl) h.shp, Path.congr h.path ?_ ?_, ?_, h.ok⟩
  · intro u hu
    rcases List.mem_cons.1 hu with rfl | hu
    · exact hc 7 (by omega)
    · obtain ⟨y, hy, rfl⟩ := List.mem_map.1 hu
      exact hn y hy 3
  · intro u hu
    rcases List.mem_append.1 hu with hu | hu
    · obtain ⟨y, hy, rfl⟩ := List.mem_map.1 hu
      exact hn y hy 2
    · simp at hu
      subst hu
      exact hc 6 (by omega)
  · intro y hy
    obtain ⟨q1, q2, q3⟩ := h.nodes y hy
    exact ⟨hs _ _ _ (Or.inr ⟨y, hy, rfl⟩) q1, (hn y hy 0).trans q2, (hn y hy 1).trans q3⟩
theorem LS.setOwn {w : World} {cb : Nat} {L : List Nd} (h : LS w cb L) (o : Nat) (ho : o < 6) (v : Value) : LS (w.setCell ⟨cb, o, none⟩ v) cb L :=
  h.congr (fun b t n _ hs => hs.set _ _) (fun o' h' => World.cell?_setCell_other _ _ _ _ (by simp only [ne_eq, Addr.mk.injEq]; omega)) (fun y hy o' => World.cell?_setCell_other _ _ _ _ (fun e => h.cbne y hy (by simpa using (congrArg Addr.block e).symm)))
theorem LS.kept {S : Nat → Prop} {w w' : World} {cb : Nat} {L : List Nd} (h : LS w cb L) (hc : Chg S w w') (h1 : ¬ S cb) (h2 : ∀ y ∈ L, ¬ S y.b) : LS w' cb L :=
  h.congr (fun b t n hb hs => hs.kept hc (by rcases hb with rfl | ⟨y, hy, rfl⟩; exact h1; exact h2 y hy)) (fun o _ => World.cell?_of_block (w := w) (hc.block cb h.shp.lt h1)) (fun y hy o => World.cell?_of_block (w := w) (hc.block y.b (h.nodes y hy).1.lt (h2 y hy)))

abbrev ents (L : List Nd) : List (Int × Value) := L.map fun x => (x.n, .pointer (some ⟨x.b, 0, none⟩))

/-- The cache at block cb, its map at block mb, its pages L in the order of use; all of it from block B on. -/
structure CS (B : Nat) (w : World) (cb mb lim : Nat) (L : List Nd) : Prop where
  ls : LS w cb L
  c0 : w.cell? ⟨cb, 0, none⟩ = some (.int .i32 0)
  c2 : w.cell? ⟨cb, 2, none⟩ = some (.int .i64 lim)
  c3 : w.cell? ⟨cb, 3, none⟩ = some (.map (some mb))
  map : ∃ Lm, MapIs w mb (Value.int .i64) Lm ∧ Lm.Perm (ents L)
  keys : (L.map Nd.n).Nodup
  len : L.length ≤ lim
  pgs : ∀ x ∈ L, ∃ a l c, x.pg = .slice a l c
  base : B ≤ cb ∧ B ≤ mb ∧ ∀ x ∈ L, B ≤ x.b

/-- What a method of the cache may touch. -/
abbrev CT (cb mb : Nat) (L : List Nd) (i : Nat) : Prop := i = cb ∨ i = mb ∨ ∃ y ∈ L, i = y.b

theorem CS.mbne {B : Nat} {w : World} {cb mb lim : Nat} {L : List Nd} (h : CS B w cb mb lim L) : mb ≠ cb ∧ ∀ y ∈ L, y.b ≠ mb := by
  obtain ⟨Lm, hm, _⟩ := h.map
  refine ⟨fun e => ?_, fun y hy e => ?_⟩
  · obtain ⟨c, h1, _⟩ := h.ls.shp
    rw [e] at hm
    exact hm.notCells h1
  · obtain ⟨c, h1, _⟩ := (h.ls.nodes y hy).1
    rw [e] at h1
    exact hm.notCells h1

theorem ents_keys (L : List Nd) : (ents L).map (·.1) = L.map Nd.n := by simp [ents, Function.comp_def]
theorem perm_keys {Lm : List (Int × Value)} {L : List Nd} (h : Lm.Perm (ents L)) (hk : (L.map Nd.n).Nodup) : (Lm.map (·.1)).Nodup := by
  have := h.map (·.1)
  rw [ents_keys] at this
  exact this.nodup_iff.2 hk

theorem CS.look_hit {B : Nat} {w w' : World} {cb mb lim : Nat} {L : List Nd} (h : CS B w cb mb lim L) (hb : w'.heap[mb]? = w.heap[mb]?) {x : Nd} (hx : x ∈ L) : (Instr.lookup 43 (.map (some mb)) (.int .i64 x.n) false).run Yba.prog w' = .ok (.pointer (some ⟨x.b, 0, none⟩)) w' := by
  obtain ⟨Lm, hm, hp⟩ := h.map
  exact (hm.of_block hb).look_hit (intKey Yba.underlying2) Yba.underlying43 x.n _ (perm_keys hp h.keys) (hp.mem_iff.2 (List.mem_map.2 ⟨x, hx, rfl⟩)) false
theorem CS.look_miss {B : Nat} {w w' : World} {cb mb lim : Nat} {L : List Nd} (h : CS B w cb mb lim L) (hb : w'.heap[mb]? = w.heap[mb]?) {n : Int} (hn : ∀ x ∈ L, x.n ≠ n) : (Instr.lookup 43 (.map (some mb)) (.int .i64 n) false).run Yba.prog w' = .ok (.pointer none) w' := by
  obtain ⟨Lm, hm, hp⟩ := h.map
  exact (hm.of_block hb).look_miss (intKey Yba.underlying2) Yba.underlying43 (by kernel_rfl) n (fun p hp' => by
    obtain ⟨x, hx, rfl⟩ := List.mem_map.1 (hp.mem_iff.1 hp')
    exact hn x hx) false

/-- The lock's word taken and let go again, nothing else turned. -/
theorem CS.locked {B : Nat} {w : World} {cb mb lim : Nat} {L : List Nd} (h : CS B w cb mb lim L) (v : Value) : CS B ((w.setCell ⟨cb, 0, none⟩ v).setCell ⟨cb, 0, none⟩ (.int .i32 0)) cb mb lim L := by
  have hm := h.mbne
  have hc : Chg (fun i => i = cb) w ((w.setCell ⟨cb, 0, none⟩ v).setCell ⟨cb, 0, none⟩ (.int .i32 0)) := (Chg.setCell (fun i => i = cb) _ _ _ rfl).trans (Chg.setCell (fun i => i = cb) _ _ _ rfl)
  obtain ⟨Lm, hmm, hp⟩ := h.map
  exact ⟨(h.ls.setOwn 0 (by omega) v).setOwn 0 (by omega) _, cell_now (cell_stays ⟨_, h.c0⟩), cell_off (by simp) (cell_off (by simp) h.c2), cell_off (by simp) (cell_off (by simp) h.c3), ⟨Lm, hmm.kept hc hm.1, hp⟩, h.keys, h.len, h.pgs, h.base⟩

set_option maxRecDepth 20000 in
set_option maxHeartbeats 800000 in
theorem get_miss {B : Nat} {w : World} {cb mb lim : Nat} {L : List Nd} (h : CS B w cb mb lim L) (n : Int) (hn : ∀ x ∈ L, x.n ≠ n) :
    Calls Yba.prog 9 #[.pointer (some ⟨cb, 0, none⟩), .int .i64 n] w fun e w' => e = .returned (.slice none 0 0) ∧ CS B w' cb mb lim L ∧ Chg (CT cb mb L) w w' := by
  have c0 := h.c0
  have f0 := h.ls.shp.free 0
  have c3 := h.c3
  have hm := h.mbne.1
  have hl : (Instr.lookup 43 (.map (some mb)) (.int .i64 n) false).run Yba.prog (w.setCell ⟨cb, 0, none⟩ (.int .i32 1)) = .ok (.pointer none) (w.setCell ⟨cb, 0, none⟩ (.int .i32 1)) := h.look_miss (heap_setCell_other _ _ _ _ hm) hn
  go_enter_defers Yba.func9, Yba.ntmps9
  go_wp2_with (go_at_call 15; refine (lock_free Yba.muLib ⟨cb, 0, none⟩ _ c0 f0).mono ?_; rintro e w' ⟨rfl, rfl⟩)
  refine leaves_cons (f := 16) (args := #[.pointer (some ⟨cb, 0, none⟩)]) (by simp) (by simp [go_sem]) ?_
  refine (unlock_deferred Yba.muLib ⟨cb, 0, none⟩ .returning _ ?_ ?_).mono ?_
  · exact cell_now ⟨_, c0⟩
  · simp [f0]
  rintro e u' w'' ⟨rfl, rfl, rfl⟩
  exact ⟨_, results_tmp rfl _ _ _, rfl, h.locked _, (Chg.setCell _ _ _ _ (Or.inl rfl)).trans (Chg.setCell _ _ _ _ (Or.inl rfl))⟩

/-- A cell of the cache's own behind steps on the ring. -/
theorem Ring.ownCell {w w' : World} {cb : Nat} {L : List Nd} (h : Ring w w' cb L) {o : Nat} (ho : o < 6) {v : Value} (hc : w.cell? ⟨cb, o, none⟩ = some v) : w'.cell? ⟨cb, o, none⟩ = some v := (h.own o ho).trans hc
theorem Ring.mapIs {w w' : World} {cb mb : Nat} {L : List Nd} (h : Ring w w' cb L) {Lm : List (Int × Value)} (hm : MapIs w mb (Value.int .i64) Lm) (h1 : mb ≠ cb) (h2 : ∀ y ∈ L, y.b ≠ mb) : MapIs w' mb (Value.int .i64) Lm :=
  hm.kept h.chg (by rintro (e | ⟨y, hy, e⟩); exact h1 e; exact h2 y hy e.symm)

set_option maxRecDepth 20000 in
set_option maxHeartbeats 800000 in
theorem get_hit {B : Nat} {w : World} {cb mb lim : Nat} {l1 l2 : List Nd} {x : Nd} (h : CS B w cb mb lim (l1 ++ x :: l2)) :
    Calls Yba.prog 9 #[.pointer (some ⟨cb, 0, none⟩), .int .i64 x.n] w fun e w' => e = .returned x.pg ∧ CS B w' cb mb lim (x :: (l1 ++ l2)) ∧ Chg (CT cb mb (l1 ++ x :: l2)) w w' := by
  have c0 := h.c0
  have f0 := h.ls.shp.free 0
  have c3 := h.c3
  have hm := h.mbne
  have hxm : x ∈ l1 ++ x :: l2 := by simp
  have hl : (Instr.lookup 43 (.map (some mb)) (.int .i64 x.n) false).run Yba.prog (w.setCell ⟨cb, 0, none⟩ (.int .i32 1)) = .ok (.pointer (some ⟨x.b, 0, none⟩)) (w.setCell ⟨cb, 0, none⟩ (.int .i32 1)) := h.look_hit (heap_setCell_other _ _ _ _ hm.1) hxm
  obtain ⟨pa, pl, pc, hpg⟩ := h.pgs x hxm
  have hls1 := h.ls.setOwn 0 (by omega) (.int .i32 1)
  have d0 : (w.setCell ⟨cb, 0, none⟩ (.int .i32 1)).cell? ⟨cb, 0, none⟩ = some (.int .i32 1) := cell_now ⟨_, c0⟩
  go_enter_defers Yba.func9, Yba.ntmps9
  go_wp2_with (go_at_call 15; refine (lock_free Yba.muLib ⟨cb, 0, none⟩ _ c0 f0).mono ?_; rintro e w' ⟨rfl, rfl⟩)
  refine Calls.mono hls1.unlink ?_
  rintro e w2 ⟨rfl, hls2, hr2⟩
  go_wp2_with fail
  obtain ⟨q1, q2, q3⟩ := hls1.nodes x hxm
  have hnew : ∀ y ∈ l1 ++ l2, y.b ≠ x.b := by
    intro y hy e
    have hok := h.ls.ok
    rw [List.nodup_cons] at hok
    have hnd := hok.2
    rw [List.map_append, List.map_cons, List.nodup_append] at hnd
    rcases List.mem_append.1 hy with hy | hy
    · exact hnd.2.2 y.b (List.mem_map.2 ⟨y, hy, rfl⟩) x.b (by simp) e
    · have := (List.nodup_cons.1 hnd.2.1).1
      exact this (e ▸ List.mem_map.2 ⟨y, hy, rfl⟩)
  refine Calls.mono (hls2.push (x := x) (hr2.shp _ _ _ q1) ((hr2.pay x hxm 0 (by omega)).trans q2) ((hr2.pay x hxm 1 (by omega)).trans q3) hnew) ?_
  rintro e w3 ⟨rfl, hls3, hr3⟩
  have hr : Ring (w.setCell ⟨cb, 0, none⟩ (.int .i32 1)) w3 cb (l1 ++ x :: l2) := by
    refine hr2.trans ⟨hr3.chg.mono ?_, hr3.own, hr3.shp, ?_⟩
    · rintro i (rfl | ⟨y, hy, rfl⟩)
      · exact Or.inl rfl
      · refine Or.inr ⟨y, ?_, rfl⟩
        simp at hy ⊢
        rcases hy with h | h | h
        · exact Or.inr (Or.inl h)
        · exact Or.inl h
        · exact Or.inr (Or.inr h)
    · intro y hy o ho
      refine hr3.pay y ?_ o ho
      simp at hy ⊢
      rcases hy with h | h | h
      · exact Or.inr (Or.inl h)
      · exact Or.inl h
      · exact Or.inr (Or.inr h)
  have hp3 := (hls3.nodes x (by simp)).2.2
  rw [hpg] at hp3
  have f3 := hls3.shp.free 0
  have d03 := hr.ownCell (o := 0) (by omega) d0
  go_wp2
  refine leaves_cons (f := 16) (args := #[.pointer (some ⟨cb, 0, none⟩)]) (by simp) (by simp [go_sem]) ?_
  refine (unlock_deferred Yba.muLib ⟨cb, 0, none⟩ .returning _ d03 f3).mono ?_
  rintro e u' w'' ⟨rfl, rfl, rfl⟩
  refine ⟨_, results_tmp rfl _ _ _, by rw [hpg]; rfl, ?_, ?_⟩
  · obtain ⟨Lm, hmm, hp⟩ := h.map
    have hm3 := (hr.mapIs (hmm.kept (Chg.setCell (fun i => i = cb) w ⟨cb, 0, none⟩ (.int .i32 1) rfl) hm.1) hm.1 hm.2).kept (Chg.setCell (fun i => i = cb) w3 ⟨cb, 0, none⟩ (.int .i32 0) rfl) hm.1
    have hperm : (l1 ++ x :: l2).Perm (x :: (l1 ++ l2)) := List.perm_middle
    refine ⟨hls3.setOwn 0 (by omega) _, cell_now ⟨_, d03⟩, cell_off (by simp) (hr.ownCell (by omega) (cell_off (by simp) h.c2)), cell_off (by simp) (hr.ownCell (by omega) (cell_off (by simp) h.c3)), ⟨Lm, hm3, hp.trans (hperm.map _)⟩, ?_, ?_, ?_, h.base.1, h.base.2.1, ?_⟩
    · exact (hperm.map _).nodup_iff.1 h.keys
    · have := h.len; simp at this ⊢; omega
    · intro y hy; exact h.pgs y (hperm.mem_iff.2 hy)
    · intro y hy; exact h.base.2.2 y (hperm.mem_iff.2 hy)
  · refine ((Chg.setCell _ _ _ _ (Or.inl rfl)).trans (hr.chg.mono ?_)).trans (Chg.setCell _ _ _ _ (Or.inl rfl))
    rintro i (rfl | hi)
    · exact Or.inl rfl
    · exact Or.inr (Or.inr hi)
end Go.Proofs.Ybulkamoo
