/-
  OUR OWN. The contracts of '(*pageCache).drop' (11), 'setLimit' (14) on an empty cache, 'newPageCache' (6), 'zzs1912apage' (7), 'bytes.Equal' (10) on one slice twice.
-/
import Derived.Test.YbulkamooPut
namespace Go.Proofs.Ybulkamoo
open Go.RowKit Go.MuLone
set_option linter.unusedVariables false

set_option maxRecDepth 20000 in
set_option maxHeartbeats 800000 in
theorem drop_miss {B : Nat} {w : World} {cb mb lim : Nat} {L : List Nd} (h : CS B w cb mb lim L) (n : Int) (hn : ∀ x ∈ L, x.n ≠ n) :
    Calls Yba.prog 11 #[.pointer (some ⟨cb, 0, none⟩), .int .i64 n] w fun e w' => e = .returned (.tuple #[]) ∧ CS B w' cb mb lim L ∧ Chg (CT cb mb L) w w' := by
  have c0 := h.c0
  have f0 := h.ls.shp.free 0
  have c3 := h.c3
  have hm := h.mbne.1
  have hl : (Instr.lookup 43 (.map (some mb)) (.int .i64 n) false).run Yba.prog (w.setCell ⟨cb, 0, none⟩ (.int .i32 1)) = .ok (.pointer none) (w.setCell ⟨cb, 0, none⟩ (.int .i32 1)) := h.look_miss (heap_setCell_other _ _ _ _ hm) hn
  go_enter_defers Yba.func11, Yba.ntmps11
  go_wp2_with (go_at_call 15; refine (lock_free Yba.muLib ⟨cb, 0, none⟩ _ c0 f0).mono ?_; rintro e w' ⟨rfl, rfl⟩)
  refine leaves_cons (f := 16) (args := #[.pointer (some ⟨cb, 0, none⟩)]) (by simp) (by simp [go_sem]) ?_
  refine (unlock_deferred Yba.muLib ⟨cb, 0, none⟩ .returning _ ?_ ?_).mono ?_
  · exact cell_now ⟨_, c0⟩
  · simp [f0]
  rintro e u' w'' ⟨rfl, rfl, rfl⟩
  exact ⟨_, results_none rfl _ _ _, rfl, h.locked _, (Chg.setCell _ _ _ _ (Or.inl rfl)).trans (Chg.setCell _ _ _ _ (Or.inl rfl))⟩

set_option maxRecDepth 20000 in
set_option maxHeartbeats 800000 in
theorem drop_hit {B : Nat} {w : World} {cb mb lim : Nat} {l1 l2 : List Nd} {x : Nd} (h : CS B w cb mb lim (l1 ++ x :: l2)) :
    Calls Yba.prog 11 #[.pointer (some ⟨cb, 0, none⟩), .int .i64 x.n] w fun e w' => e = .returned (.tuple #[]) ∧ CS B w' cb mb lim (l1 ++ l2) ∧ Chg (CT cb mb (l1 ++ x :: l2)) w w' := by
  have c0 := h.c0
  have f0 := h.ls.shp.free 0
  have c3 := h.c3
  have hm := h.mbne
  have hxm : x ∈ l1 ++ x :: l2 := by simp
  have hl : (Instr.lookup 43 (.map (some mb)) (.int .i64 x.n) false).run Yba.prog (w.setCell ⟨cb, 0, none⟩ (.int .i32 1)) = .ok (.pointer (some ⟨x.b, 0, none⟩)) (w.setCell ⟨cb, 0, none⟩ (.int .i32 1)) := h.look_hit (heap_setCell_other _ _ _ _ hm.1) hxm
  have hh1 := h.held
  go_enter_defers Yba.func11, Yba.ntmps11
  go_wp2_with (go_at_call 15; refine (lock_free Yba.muLib ⟨cb, 0, none⟩ _ c0 f0).mono ?_; rintro e w' ⟨rfl, rfl⟩)
  refine Calls.mono hh1.ls.unlink ?_
  rintro e w2 ⟨rfl, hls2, hr2⟩
  have hh2 := hh1.ring hr2 hls2
  obtain ⟨Lm, hmm, hp⟩ := h.map
  have hmm2 := hr2.mapIs (hmm.kept (Chg.setCell (fun i => i = cb) w ⟨cb, 0, none⟩ (.int .i32 1) rfl) hm.1) hm.1 hm.2
  obtain ⟨j, v, hj, hpe⟩ := drop_perm hp
  obtain ⟨w3, hdel, hm3, hc3⟩ := hmm2.drop_any (intKey Yba.underlying2) Yba.underlying43 x.n (perm_keys hp h.keys) j v hj
  have c32 := hh2.c3
  have hsub : ∀ y ∈ l1 ++ l2, y ∈ l1 ++ x :: l2 := by intro y hy; simp at hy ⊢; rcases hy with h | h; exact Or.inl h; exact Or.inr (Or.inr h)
  have hh3 := hh2.kept hc3 (fun e => hm.1 e.symm) (fun y hy => hm.2 y (hsub y hy))
  have d0 := hh3.c0
  have f3 := hh3.ls.shp.free 0
  go_wp2
  refine leaves_cons (f := 16) (args := #[.pointer (some ⟨cb, 0, none⟩)]) (by simp) (by simp [go_sem]) ?_
  refine (unlock_deferred Yba.muLib ⟨cb, 0, none⟩ .returning _ d0 f3).mono ?_
  rintro e u' w'' ⟨rfl, rfl, rfl⟩
  refine ⟨_, results_none rfl _ _ _, rfl, put_final hh3 ⟨_, hm3, hpe⟩ ?_ ?_ (fun y hy => h.pgs y (hsub y hy)) ⟨h.base.1, h.base.2.1, fun y hy => h.base.2.2 y (hsub y hy)⟩ hm.1, ?_⟩
  · have := h.keys
    rw [List.map_append, List.map_cons] at this
    rw [List.map_append]
    exact this.sublist (List.Sublist.append (List.Sublist.refl _) (List.sublist_cons_self _ _))
  · have := h.len; simp at this ⊢; omega
  · refine (((Chg.setCell _ _ _ _ (Or.inl rfl)).trans (hr2.chg.mono ?_)).trans (hc3.mono (fun i hi => Or.inr (Or.inl hi)))).trans (Chg.setCell _ _ _ _ (Or.inl rfl))
    rintro i (rfl | hi)
    · exact Or.inl rfl
    · exact Or.inr (Or.inr hi)
end Go.Proofs.Ybulkamoo
