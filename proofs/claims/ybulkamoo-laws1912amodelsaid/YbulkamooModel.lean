/-
  OUR OWN. LawS1912AModel: the walk of the whole script, beside the two slices that the text keeps.
-/
import Derived.Test.YbulkamooOut
import Derived.Test.YbulkamooRowOps
import Derived.Deep.DeepCutAuto
import Derived.Deep.CutBlock
namespace Go.Proofs.Ybulkamoo
open Go.RowKit
set_option linter.unusedVariables false
set_option linter.unusedSimpArgs false

/-! ### the first place of a number -/
def at1 : List Int → Int → Nat
  | [], _ => 0
  | a :: M, k => if a = k then 0 else at1 M k + 1
theorem at1_mem : ∀ (M : List Int) (k : Int), k ∈ M → M[at1 M k]? = some k
  | [], _, h => by cases h
  | a :: M, k, h => by
    unfold at1
    split
    · rename_i e; subst e; rfl
    · rename_i e
      simp only [List.getElem?_cons_succ]
      exact at1_mem M k (by rcases List.mem_cons.1 h with h | h; exact absurd h.symm e; exact h)
theorem at1_first : ∀ (M : List Int) (k : Int) (i : Nat), i < at1 M k → M[i]? ≠ some k
  | [], _, _, h => by simp [at1] at h
  | a :: M, k, i, h => by
    unfold at1 at h
    split at h
    · omega
    · rename_i e
      cases i with
      | zero => simpa using e
      | succ i => simp only [List.getElem?_cons_succ]; exact at1_first M k i (by omega)
def jAt (M : List Int) (k : Int) : Int := if k ∈ M then (at1 M k : Int) else -1
theorem jAt_yes {M : List Int} {k : Int} (h : k ∈ M) : jAt M k = (at1 M k : Int) := if_pos h
theorem jAt_no {M : List Int} {k : Int} (h : k ∉ M) : jAt M k = -1 := if_neg h
theorem lt_get {α : Type} {l : List α} {i : Nat} {x : α} (h : l[i]? = some x) : i < l.length := by
  rcases Nat.lt_or_ge i l.length with h' | h'
  · exact h'
  · rw [List.getElem?_eq_none h'] at h; cases h
theorem get_lt {α : Type} {M : List α} {i : Nat} (h : i < M.length) : ∃ m, M[i]? = some m := ⟨M[i], List.getElem?_eq_getElem h⟩

theorem len_of {w : World} {base : Nat} {e : TypeId} {size : Nat} {v : Value} {n : Nat} {xs : List Value} (ho : w.ownsRow base e size v n xs) : ∃ a c, v = .slice a n c := by
  rcases ho.2 with ⟨rfl, rfl⟩ | ⟨g, cap, cur, rfl, _⟩
  · exact ⟨none, 0, rfl⟩
  · exact ⟨_, _, rfl⟩
theorem cell_map {w : World} {base : Nat} {e : TypeId} {g n cap : Nat} {α : Type} {f : α → Value} {M : List α} (ho : w.ownsRow base e 1 (.slice (some ⟨g, 0, none⟩) n cap) n (M.map f)) {i : Nat} {m : α} (hi : M[i]? = some m) : w.cell? ⟨g, i, none⟩ = some (f m) :=
  ownsRow_cell ho (by rw [List.getElem?_map, hi]; rfl)

abbrev kRow (K : List (Int × Value)) : List Value := K.map fun p => .int .i64 p.1
abbrev vRow (K : List (Int × Value)) : List Value := K.map fun p => p.2
theorem info2m : (Yba.prog.info? 2).map (fun i => (i.zero, i.size, i.bytes)) = some (some (.int .i64 0), 1, 8) := by kernel_rfl
theorem info30m : (Yba.prog.info? 30).map (fun i => (i.zero, i.size, i.bytes)) = some (some (.slice none 0 0), 1, 24) := by kernel_rfl

/-- The model's two slices beside the cache. -/
structure MS (B : Nat) (w wr : World) (cb mb lim : Nat) (kv vv : Value) (L : List Nd) : Prop where
  cs : CS B wr cb mb lim L
  pg : ∀ x ∈ L, PgOk wr x.pg
  bel : Below B w wr
  krow : wr.ownsRow B 2 1 kv L.length (kRow (kp L))
  vrow : wr.ownsRow B 30 1 vv L.length (vRow (kp L))

theorem CS.alloc {B : Nat} {w : World} {cb mb lim : Nat} {L : List Nd} (h : CS B w cb mb lim L) (o : Obj) : CS B (w.alloc o) cb mb lim L := by
  obtain ⟨Lm, hm, hp⟩ := h.map
  have hc := Chg.alloc (fun _ => False) w o
  exact ⟨h.ls.kept hc (fun h => h) (fun _ _ h => h), hc.cell h.c0 (fun h => h), hc.cell h.c2 (fun h => h), hc.cell h.c3 (fun h => h), ⟨Lm, hm.kept hc (fun h => h), hp⟩, h.keys, h.len, h.pgs, h.base⟩
theorem MS.alloc {B : Nat} {w wr : World} {cb mb lim : Nat} {kv vv : Value} {L : List Nd} (h : MS B w wr cb mb lim kv vv L) (hs : w.heap.size ≤ wr.heap.size) (o : Obj) (hB : B ≤ wr.heap.size := by omega) : MS B w (wr.alloc o) cb mb lim kv vv L :=
  ⟨h.cs.alloc o, fun x hx => (Fr.alloc wr (Nat.zero_le _) o).pgOk (h.pg x hx), h.bel.alloc hB o, h.krow.alloc o, h.vrow.alloc o⟩

theorem split_at1 : ∀ (L : List Nd) (k : Int), k ∈ L.map Nd.n → ∃ l1 x l2, L = l1 ++ x :: l2 ∧ l1.length = at1 (L.map Nd.n) k ∧ x.n = k
  | [], _, h => by cases h
  | y :: L, k, h => by
    by_cases e : y.n = k
    · exact ⟨[], y, L, rfl, by simp [at1, e], e⟩
    · have h' : k ∈ L.map Nd.n := by
        rw [List.map_cons, List.mem_cons] at h
        rcases h with h | h
        · exact absurd h.symm e
        · exact h
      obtain ⟨l1, x, l2, rfl, h1, h2⟩ := split_at1 L k h'
      exact ⟨y :: l1, x, l2, rfl, by simp only [List.map_cons, at1, if_neg e, List.length_cons, h1], h2⟩
theorem kRow_erase (l1 l2 : List Nd) (x : Nd) : (kRow (kp (l1 ++ x :: l2))).eraseIdx l1.length = kRow (kp (l1 ++ l2)) := by
  rw [eraseIdx_take_drop]
  simp [kRow, kp, List.drop_append]
theorem vRow_erase (l1 l2 : List Nd) (x : Nd) : (vRow (kp (l1 ++ x :: l2))).eraseIdx l1.length = vRow (kp (l1 ++ l2)) := by
  rw [eraseIdx_take_drop]
  simp [vRow, kp, List.drop_append]
/-- Where 's[j+1:]' begins. -/
theorem tail_at (g j n cap : Nat) (hj : j < n) (hn : n ≤ cap) : ∃ ad : Addr, (if cap = j + 1 then some (⟨g, 0, none⟩ : Addr) else some ⟨g, j + 1, none⟩) = some ad ∧ (ad = ⟨g, j + 1, none⟩ ∨ n = j + 1) := by
  by_cases h : cap = j + 1
  · exact ⟨⟨g, 0, none⟩, by rw [if_pos h], Or.inr (by omega)⟩
  · exact ⟨⟨g, j + 1, none⟩, by rw [if_neg h], Or.inl rfl⟩
theorem kRow_one (K : List (Int × Value)) : ∀ u ∈ kRow K, u.oneCell' = true := by
  intro u hu
  obtain ⟨p, _, rfl⟩ := List.mem_map.1 hu
  rfl
theorem vRow_one {w : World} {L : List Nd} (h : ∀ x ∈ L, PgOk w x.pg) : ∀ u ∈ vRow (kp L), u.oneCell' = true := by
  intro u hu
  obtain ⟨p, hp, rfl⟩ := List.mem_map.1 hu
  obtain ⟨x, hx, rfl⟩ := List.mem_map.1 hp
  obtain ⟨g, l, cs, e, _⟩ := h x hx
  show Value.oneCell' x.pg = true
  rw [e]; rfl
theorem apart_rows' {w : World} {base base' : Nat} {e e' : TypeId} {size size' : Nat} {v v' : Value} {n n' : Nat} {xs xs' : List Value} (h : w.ownsRow base e size v n xs) (h' : w.ownsRow base' e' size' v' n' xs') (hne : e ≠ e') : ∀ k, v.ownBlock = some k → ¬ v'.ownBlock = some k := by
  intro k hk hk'
  obtain ⟨c, hc⟩ := ownsRow_block h hk
  obtain ⟨c', hc'⟩ := ownsRow_block h' hk'
  rw [hc] at hc'
  simp only [Option.some.injEq, Obj.cells.injEq] at hc'
  exact hne hc'.2.1
theorem kp_len {L L' : List Nd} {K : List (Int × Value)} (h : kp L' = K) : L'.length = K.length := by rw [← h]; simp [kp]
theorem pg_of_kp {w : World} {L' : List Nd} {K : List (Int × Value)} (h : kp L' = K) (hK : ∀ p ∈ K, PgOk w p.2) : ∀ x ∈ L', PgOk w x.pg := by
  intro x hx
  exact hK (x.n, x.pg) (by rw [← h]; exact List.mem_map.2 ⟨x, hx, rfl⟩)
theorem vrow_new {w : World} {base : Nat} {e : TypeId} {size : Nat} {v : Value} {n : Nat} {xs : List Value} (h : w.ownsRow base e size v n xs) (s : Nat) (hs : s = w.heap.size) : ∀ k, v.ownBlock = some k → ¬ k = s := by
  intro k hk e
  have := (h.lt k hk).2
  omega
/-- The cache's part of the state. -/
structure SD (B : Nat) (w wr : World) (cb mb lim : Nat) (L : List Nd) : Prop where
  cs : CS B wr cb mb lim L
  pg : ∀ x ∈ L, PgOk wr x.pg
  bel : Below B w wr
/-- A block that is none of the cache's and no page's bytes. -/
def Aside (w : World) (B g : Nat) : Prop := B ≤ g ∧ ∀ o, w.heap[g]? = some o → ∃ c e f, o = .cells c e f ∧ e ≠ 46 ∧ e ≠ 48 ∧ e ≠ 5
theorem Aside.row {w : World} {B : Nat} {e : TypeId} {g n cap : Nat} {xs : List Value} (h : w.ownsRow B e 1 (.slice (some ⟨g, 0, none⟩) n cap) n xs) (h1 : e ≠ 46) (h2 : e ≠ 48) (h3 : e ≠ 5) : Aside w B g := by
  obtain ⟨c, hc⟩ := ownsRow_block h (k := g) rfl
  exact ⟨(h.lt g rfl).1, fun o ho => ⟨c, e, (0, 0), by rw [hc] at ho; simpa using ho.symm, h1, h2, h3⟩⟩
theorem Aside.blk {w : World} {B g : Nat} {c : Array Value} {e : TypeId} (hb : B ≤ g) (h : w.heap[g]? = some (.cells c e (0, 0))) (h1 : e ≠ 46) (h2 : e ≠ 48) (h3 : e ≠ 5) : Aside w B g :=
  ⟨hb, fun o ho => ⟨c, e, (0, 0), by rw [h] at ho; simpa using ho.symm, h1, h2, h3⟩⟩
theorem SD.kept {B : Nat} {w wr w' : World} {cb mb lim g : Nat} {L : List Nd} (h : SD B w wr cb mb lim L) (hc : Chg (fun i => i = g) wr w') (hg : Aside wr B g) (hB : B ≤ wr.heap.size) : SD B w w' cb mb lim L := by
  have hno : ∀ i c e f, wr.heap[i]? = some (.cells c e f) → (e = 46 ∨ e = 48 ∨ e = 5) → ¬ i = g := by
    intro i c e f hi he e2
    subst e2
    obtain ⟨c', e', f', ho, q1, q2, q3⟩ := hg.2 _ hi
    simp only [Obj.cells.injEq] at ho
    rw [← ho.2.1] at q1 q2 q3
    rcases he with rfl | rfl | rfl
    · exact q1 rfl
    · exact q2 rfl
    · exact q3 rfl
  have hcb : ¬ cb = g := by obtain ⟨c, h1, _⟩ := h.cs.ls.shp; exact hno _ _ _ _ h1 (Or.inr (Or.inl rfl))
  have hnd : ∀ y ∈ L, ¬ y.b = g := fun y hy => by obtain ⟨c, h1, _⟩ := (h.cs.ls.nodes y hy).1; exact hno _ _ _ _ h1 (Or.inl rfl)
  obtain ⟨Lm, hm, hp⟩ := h.cs.map
  have hmb : ¬ mb = g := by
    intro e
    subst e
    obtain ⟨es, ck, h1, _⟩ := hm
    obtain ⟨c', e', f', ho, _⟩ := hg.2 _ h1
    cases ho
  refine ⟨⟨h.cs.ls.kept hc hcb hnd, hc.cell h.cs.c0 hcb, hc.cell h.cs.c2 hcb, hc.cell h.cs.c3 hcb, ⟨Lm, hm.kept hc hmb, hp⟩, h.cs.keys, h.cs.len, h.cs.pgs, h.cs.base⟩, ?_, h.bel.trans (hc.below hB (fun k hk => by subst hk; exact hg.1))⟩
  intro x hx
  obtain ⟨q, l, cs, e, hq, hl⟩ := h.pg x hx
  exact ⟨q, l, cs, e, hc.at hq (hno _ _ _ _ hq (Or.inr (Or.inr rfl))), hl⟩
theorem SD.drew {B : Nat} {w wr : World} {cb mb lim : Nat} {L : List Nd} (h : SD B w wr cb mb lim L) : SD B w wr.drew cb mb lim L := by
  have hc := Chg.drew (fun _ => False) wr
  obtain ⟨Lm, hm, hp⟩ := h.cs.map
  exact ⟨⟨h.cs.ls.kept hc (fun h => h) (fun _ _ h => h), h.cs.c0, h.cs.c2, h.cs.c3, ⟨Lm, hm.kept hc (fun h => h), hp⟩, h.cs.keys, h.cs.len, h.cs.pgs, h.cs.base⟩, h.pg, h.bel.drew⟩
theorem SD.alloc {B : Nat} {w wr : World} {cb mb lim : Nat} {L : List Nd} (h : SD B w wr cb mb lim L) (o : Obj) (hB : B ≤ wr.heap.size) : SD B w (wr.alloc o) cb mb lim L :=
  ⟨h.cs.alloc o, fun x hx => (Fr.alloc wr (Nat.zero_le _) o).pgOk (h.pg x hx), h.bel.alloc hB o⟩
theorem MS.sd {B : Nat} {w wr : World} {cb mb lim : Nat} {kv vv : Value} {L : List Nd} (h : MS B w wr cb mb lim kv vv L) : SD B w wr cb mb lim L := ⟨h.cs, h.pg, h.bel⟩
theorem SD.ms {B : Nat} {w wr : World} {cb mb lim : Nat} {kv vv : Value} {L : List Nd} (h : SD B w wr cb mb lim L) (h1 : wr.ownsRow B 2 1 kv L.length (kRow (kp L))) (h2 : wr.ownsRow B 30 1 vv L.length (vRow (kp L))) : MS B w wr cb mb lim kv vv L := ⟨h.cs, h.pg, h.bel, h1, h2⟩
/-- A method of the cache behind which its pages are among those that were there, or a good one. -/
theorem SD.next {B : Nat} {w wr w3 : World} {cb mb lim : Nat} {L L' : List Nd} (h : SD B w wr cb mb lim L) (hcs : CS B w3 cb mb lim L') (hsub : ∀ x ∈ L', (∃ y ∈ L, x.pg = y.pg) ∨ PgOk wr x.pg) (hfr : Fr B wr w3) : SD B w w3 cb mb lim L' :=
  ⟨hcs, fun x hx => hfr.pgOk (by rcases hsub x hx with ⟨y, hy, e⟩ | h'; (rw [e]; exact h.pg y hy); exact h'), h.bel.trans hfr.below⟩

/-- The cache has turned, the model's slices have not. -/
theorem MS.next {B : Nat} {w wr w3 : World} {cb mb lim : Nat} {kv vv : Value} {L L' : List Nd} (h : MS B w wr cb mb lim kv vv L) (hcs : CS B w3 cb mb lim L') (hkp : kp L' = kp L) (hfr : Fr B wr w3) : MS B w w3 cb mb lim kv vv L' := by
  have hl : L'.length = L.length := by rw [kp_len (L := L) hkp]; simp [kp]
  refine ⟨hcs, pg_of_kp hkp ?_, h.bel.trans hfr.below, ?_, ?_⟩
  · intro p hp
    obtain ⟨x, hx, rfl⟩ := List.mem_map.1 hp
    exact hfr.pgOk (h.pg x hx)
  · rw [hl, hkp]; exact hfr.ownsRow h.krow (by decide) (by decide)
  · rw [hl, hkp]; exact hfr.ownsRow h.vrow (by decide) (by decide)

/-- A round that only drew. -/
theorem MS.drewN {B : Nat} {w wr : World} {cb mb lim : Nat} {kv vv : Value} {L : List Nd} (h : MS B w wr cb mb lim kv vv L) (N : Nat) : MS B w (wr.drewN N) cb mb lim kv vv L := by
  have hc := Chg.drewN (fun _ => False) wr N
  obtain ⟨Lm, hm, hp⟩ := h.cs.map
  exact ⟨⟨h.cs.ls.kept hc (fun h => h) (fun _ _ h => h), h.cs.c0, h.cs.c2, h.cs.c3, ⟨Lm, hm.kept hc (fun h => h), hp⟩, h.cs.keys, h.cs.len, h.cs.pgs, h.cs.base⟩, h.pg, h.bel.trans (hc.below (by have := h.cs.base.1; have := h.cs.ls.shp.lt; omega) (fun k hk => hk.elim)), hc.ownsRow h.krow (fun _ _ h => h), hc.ownsRow h.vrow (fun _ _ h => h)⟩
theorem Path.pv_start {w : World} {a z : Addr} {l : List Addr} (h : Path w a l z) : w.cell? (pv (headA l z)) = some (ptr a) := by
  cases l with
  | nil => exact h.2
  | cons x l => exact h.1.2
theorem split_len : ∀ (L : List Nd) (i : Nat), i < L.length → ∃ l1 x l2, L = l1 ++ x :: l2 ∧ l1.length = i
  | [], i, h => by simp at h
  | y :: L, 0, _ => ⟨[], y, L, rfl, rfl⟩
  | y :: L, i + 1, h => by
    obtain ⟨l1, x, l2, rfl, h1⟩ := split_len L i (by simp at h; omega)
    exact ⟨y :: l1, x, l2, rfl, by simp [h1]⟩
theorem head_drop (L l1 l2 : List Nd) (x : Nd) (z : Addr) (h : L = l1 ++ x :: l2) (i : Nat) (hi : l1.length = i) : headA ((L.drop (i + 1)).map Nd.addr) z = headA (l2.map Nd.addr) z ∧ headA ((L.drop i).map Nd.addr) z = x.addr := by
  subst h hi
  constructor
  · have : (l1 ++ x :: l2).drop (l1.length + 1) = l2 := by rw [show l1 ++ x :: l2 = (l1 ++ [x]) ++ l2 from by simp, show l1.length + 1 = (l1 ++ [x]).length from by simp, List.drop_left]
    rw [this]
  · simp [headA]

set_option maxRecDepth 20000 in
set_option maxHeartbeats 1600000 in
theorem model_walk (limit : Int) (a0 : Option Addr) (len0 cap0 : Nat) (op key : Nat → Int) (w : World) (h1 : -128 ≤ limit) (h2 : limit ≤ 127) (hlen : len0 ≤ 1024) (hz : ∀ i, (0 ≤ op i ∧ op i ≤ 255) ∧ 0 ≤ key i ∧ key i ≤ 255)
    (hcell : ∀ i, i < len0 → ∃ b off, a0 = some ⟨b, off, none⟩ ∧ w.cell? ⟨b, off + i * 2, none⟩ = some (.int .u8 (op i)) ∧ w.cell? ⟨b, off + i * 2 + 1, none⟩ = some (.int .u8 (key i))) :
    Calls Yba.prog 3 #[.int .i8 limit, .slice a0 len0 cap0] w fun e w' => e = .returned (.bool true) ∧ Below w.heap.size w w' := by
  have hdl : decide ((1024 : Int) < (len0 : Int)) = false := by rw [decide_eq_false_iff_not]; omega
  have HZ : Hid (∀ i, (0 ≤ op i ∧ op i ≤ 255) ∧ 0 ≤ key i ∧ key i ≤ 255) := hz
  have HCE : Hid (∀ i, i < len0 → ∃ b off, a0 = some ⟨b, off, none⟩ ∧ w.cell? ⟨b, off + i * 2, none⟩ = some (.int .u8 (op i)) ∧ w.cell? ⟨b, off + i * 2 + 1, none⟩ = some (.int .u8 (key i))) := hcell
  clear hz hcell
  go_enter Yba.func3, Yba.ntmps3
  go_wp2_with fail
  refine Calls.mono (new_any _ limit h2 h1 w.heap.size (Nat.le_refl _)) ?_
  rintro e w1 ⟨cb, mb, rfl, hcs1, hch1⟩
  have hb1 : Below w.heap.size w w1 := hch1.below (Nat.le_refl _) (fun _ h => h.elim)
  clear hch1
  go_upto_if 28 with fail
  go_cut [6] from 27 to 28 (fun s6 wx => w1 = wx ∧ s6 = .int .i64 (limit.toNat : Nat))
  case first =>
    by_cases hl : limit < 0
    · go_wp2
      go_meet
      exact ⟨rfl, by go_num⟩
    · go_wp2
      go_meet
      exact ⟨rfl, by go_num⟩
  case rest =>
  obtain ⟨rfl, rfl⟩ := hcut
  have hlm : limit.toNat ≤ 127 := by omega
  generalize limit.toNat = lim at *
  go_wp2
  go_loopg [31, 7, 8] len0 (fun gk i kv vv wr => ∃ (t : Nat) (L : List Nd), gk + t = len0 ∧ i = .int .i64 t ∧ MS w.heap.size w wr cb mb lim kv vv L)
  case atStart => exact ⟨0, [], rfl, rfl, hcs1, by simp, hb1, World.ownsRow_nil _ _ _ _, World.ownsRow_nil _ _ _ _⟩
  case round =>
    obtain ⟨t, L, hgt, rfl, D⟩ := hrel
    by_cases hlt : t < len0
    · obtain ⟨b, off, rfl, hc, hc'⟩ := HCE.out t hlt
      have hbl : b < w.heap.size := block_lt_of_cell hc
      have r0 : wr.cell? ⟨b, off + t * 2, none⟩ = some (.int .u8 (op t)) := (D.bel.cell (p := ⟨b, off + t * 2, none⟩) hbl).trans hc
      have r1 : wr.cell? ⟨b, off + t * 2 + 1, none⟩ = some (.int .u8 (key t)) := (D.bel.cell (p := ⟨b, off + t * 2 + 1, none⟩) hbl).trans hc'
      obtain ⟨⟨o0, o1⟩, k0, k1⟩ := HZ.out t
      have hsz := D.bel.size
      obtain ⟨ka, kc, hkv⟩ := len_of D.krow
      obtain ⟨va, vc, hvv⟩ := len_of D.vrow
      subst hkv hvv
      clear hc hc'
      go_upto_block 2 with fail
      have hk6 : 0 ≤ key t % 6 ∧ key t % 6 < 6 := by omega
      have M1 : MS w.heap.size w (wr.alloc (.cells #[.int .u8 (op t), .int .u8 (key t)] 29)) cb mb lim (.slice ka L.length kc) (.slice va L.length vc) L := D.alloc hsz _
      have hst : (wr.alloc (.cells #[.int .u8 (op t), .int .u8 (key t)] 29)).cell? ⟨wr.heap.size, 0, none⟩ = some (.int .u8 (op t)) := by rw [cell_of_row _ _ _ _ _ _ (heap_alloc_new wr _)]; rfl
      have hsz1 : w.heap.size ≤ (wr.alloc (.cells #[.int .u8 (op t), .int .u8 (key t)] 29)).heap.size := by simp; omega
      clear r0 r1 D hsz
      generalize key t % 6 = k at *
      generalize wr.alloc (.cells #[.int .u8 (op t), .int .u8 (key t)] 29) = w1 at *
      generalize wr.heap.size = sb at *
      have hLn : L.length ≤ 127 := by have := M1.cs.len; omega
      go_cut [12] from 40 to 52 (fun s12 wx => w1 = wx ∧ s12 = .int .i64 (jAt (L.map Nd.n) k))
      case first =>
        have hmod := M1.krow
        have HKR : Hid (kRow (kp L) = (L.map Nd.n).map (Value.int .i64)) := by simp [kRow, kp, Function.comp_def, Hid]
        rw [HKR.out] at hmod
        have hll : (L.map Nd.n).length = L.length := by simp
        by_cases hn0 : L.length = 0
        · obtain rfl : L = [] := List.eq_nil_of_length_eq_zero hn0
          clear hn0 HKR hll
          go_wp2_with fail
          refine wp_loop_rounds 1 ?_
          rw [rounds_succ]
          go_wp2
          go_meet
          exact ⟨rfl, rfl⟩
        · obtain ⟨g, cap, cur, hform, -⟩ := ownsRow_form hmod (by omega)
          simp only [Value.slice.injEq] at hform
          obtain ⟨rfl, -, rfl⟩ := hform
          by_cases hk : k ∈ L.map Nd.n
          · have HPM : Hid ((L.map Nd.n)[at1 (L.map Nd.n) k]? = some k) := at1_mem _ k hk
            have hpl : at1 (L.map Nd.n) k < L.length := by have := lt_get HPM.out; omega
            have HPF : Hid (∀ i, i < at1 (L.map Nd.n) k → (L.map Nd.n)[i]? ≠ some k) := at1_first _ k
            have HJ : Hid (jAt (L.map Nd.n) k = (at1 (L.map Nd.n) k : Int)) := jAt_yes hk
            generalize at1 (L.map Nd.n) k = pl at *
            go_wp2_with fail
            go_loopg [12, 13] pl (fun gk s12 s13 wx => w1 = wx ∧ s12 = .int .i64 (-1) ∧ ∃ i : Nat, s13 = .int .i64 i ∧ gk + i = pl)
            case atStart => exact ⟨rfl, rfl, 0, rfl, rfl⟩
            case round =>
              obtain ⟨rfl, rfl, i, rfl, hgi⟩ := hrel
              obtain ⟨mi, hmi⟩ := get_lt (show i < (L.map Nd.n).length by omega)
              have hci := cell_map hmod hmi
              have HMI : Hid ((L.map Nd.n)[i]? = some mi) := hmi
              clear hmi
              by_cases hip : i = pl
              · subst hip
                obtain rfl : k = mi := by have := HPM.out.symm.trans HMI.out; simpa using this
                go_wp2
                go_meet
                exact ⟨rfl, by rw [HJ.out]⟩
              · have hne : (mi == k) = false := by rw [beq_eq_false_iff_ne]; exact fun e => HPF.out i (by omega) (by rw [← e]; exact HMI.out)
                go_wp2
                go_roundg (pl - (i + 1))
                case measure => omega
                case rel => exact ⟨rfl, rfl, i + 1, by go_num, by omega⟩
          · have HJ : Hid (jAt (L.map Nd.n) k = -1) := jAt_no hk
            go_wp2_with fail
            go_loopg [12, 13] L.length (fun gk s12 s13 wx => w1 = wx ∧ s12 = .int .i64 (-1) ∧ ∃ i : Nat, s13 = .int .i64 i ∧ gk + i = L.length)
            case atStart => exact ⟨rfl, rfl, 0, rfl, rfl⟩
            case round =>
              obtain ⟨rfl, rfl, i, rfl, hgi⟩ := hrel
              by_cases hil : i < L.length
              · obtain ⟨mi, hmi⟩ := get_lt (show i < (L.map Nd.n).length by omega)
                have hci := cell_map hmod hmi
                have hne : (mi == k) = false := by rw [beq_eq_false_iff_ne]; exact fun e => hk (e ▸ List.mem_of_getElem? hmi)
                clear hmi
                go_wp2
                go_roundg (L.length - (i + 1))
                case measure => omega
                case rel => exact ⟨rfl, rfl, i + 1, by go_num, by omega⟩
              · obtain rfl : i = L.length := by omega
                go_wp2
                go_meet
                exact ⟨rfl, by rw [HJ.out]⟩
      case rest =>
        obtain ⟨rfl, rfl⟩ := hcut
        rcases (show op t % 3 = 0 ∨ op t % 3 = 1 ∨ op t % 3 = 2 by omega) with ho | ho | ho
        · have ho0 : (op t % 3 == 0) = true := by simp [ho]
          clear ho
          go_wp2_with fail
          refine Calls.mono (page_any w1 t (by omega)) ?_
          rintro e w2 ⟨pa, pb, rfl, rfl⟩
          have M2 := M1.alloc (by have := M1.bel.size; omega) (.cells #[.int .u8 pa, .int .u8 pb, .int .u8 7] 5) hsz1
          have hpok : PgOk (w1.alloc (.cells #[.int .u8 pa, .int .u8 pb, .int .u8 7] 5)) (.slice (some ⟨w1.heap.size, 0, none⟩) 3 3) := ⟨_, 3, [pa, pb, 7], rfl, heap_alloc_new w1 _, rfl⟩
          have hsz2 : w.heap.size ≤ (w1.alloc (.cells #[.int .u8 pa, .int .u8 pb, .int .u8 7] 5)).heap.size := by simp; omega
          go_wp2_with fail
          refine Calls.mono (put_all M2.cs k (some ⟨w1.heap.size, 0, none⟩) 3 3 hlm hsz2) ?_
          rintro e w3 ⟨rfl, L', hcs3, hkp, hfr⟩
          generalize w1.alloc (.cells #[.int .u8 pa, .int .u8 pb, .int .u8 7] 5) = w2 at *
          generalize w1.heap.size = pgb at *
          have HKP : Hid (kp L' = putK lim (kp L) k (.slice (some ⟨pgb, 0, none⟩) 3 3)) := hkp
          have hkk : (kp L).map (·.1) = L.map Nd.n := by simp [kp, Function.comp_def]
          have HKK : Hid ((kp L).map (·.1) = L.map Nd.n) := hkk
          clear hkp hkk
          by_cases hl0 : lim = 0
          · have hg0 : ((lim : Int) == 0) = true := by simp [hl0]
            have HL0 : Hid (lim = 0) := hl0
            clear hl0
            go_wp2
            go_roundg (len0 - (t + 1))
            case measure => omega
            case rel => exact ⟨t + 1, L', by omega, by go_num, M2.next hcs3 (by rw [HKP.out, putK, if_pos (Or.inl HL0.out)]) hfr⟩
          · have hg0 : ((lim : Int) == 0) = false := by rw [beq_eq_false_iff_ne]; omega
            by_cases hk : k ∈ L.map Nd.n
            · have HJ : Hid (jAt (L.map Nd.n) k = (at1 (L.map Nd.n) k : Int)) := jAt_yes hk
              have hj0 : 0 ≤ jAt (L.map Nd.n) k := by rw [HJ.out]; omega
              go_wp2
              go_roundg (len0 - (t + 1))
              case measure => omega
              case rel => exact ⟨t + 1, L', by omega, by go_num, M2.next hcs3 (by rw [HKP.out, putK, if_pos (Or.inr (by rw [HKK.out]; exact hk))]) hfr⟩
            · have HJ : Hid (jAt (L.map Nd.n) k = -1) := jAt_no hk
              have hj0 : jAt (L.map Nd.n) k < 0 := by rw [HJ.out]; omega
              have sd3 : SD w.heap.size w w3 cb mb lim L' := M2.sd.next hcs3 (fun y hy => by
                have : (y.n, y.pg) ∈ kp L' := List.mem_map.2 ⟨y, hy, rfl⟩
                rw [HKP.out] at this
                rcases putK_mem this with h | h
                · obtain ⟨z, hz, e⟩ := List.mem_map.1 h
                  simp only [Prod.mk.injEq] at e
                  exact Or.inl ⟨z, hz, e.2.symm⟩
                · simp only [Prod.mk.injEq] at h
                  rw [h.2]
                  exact Or.inr hpok) hfr
              have kr3 := hfr.ownsRow M2.krow (by decide) (by decide)
              have vr3 := hfr.ownsRow M2.vrow (by decide) (by decide)
              have hs3 := hfr.below.size
              have hB3 : w.heap.size ≤ w3.heap.size := by omega
              have HNE : Hid (¬ (lim = 0 ∨ k ∈ (kp L).map (·.1))) := by rw [HKK.out]; exact fun h => by rcases h with h | h; exact hl0 h; exact hk h
              have HV2 := vRow_one M2.pg
              have HK2 := kRow_one (kp L)
              by_cases hf : L.length = lim
              · have hg2 : ((L.length : Int) == (lim : Int)) = true := by rw [beq_iff_eq]; omega
                have HF : Hid (L.length = lim) := hf
                have hpos : 0 < L.length := by omega
                obtain ⟨kg, kcap, kcur, hkf, hk1, hk2, hk3, hk4, -⟩ := ownsRow_form kr3 hpos
                obtain ⟨vg, vcap, vcur, hvf, hv1, hv2, hv3, hv4, -⟩ := ownsRow_form vr3 hpos
                simp only [Value.slice.injEq] at hkf hvf
                obtain ⟨rfl, -, rfl⟩ := hkf
                obtain ⟨rfl, -, rfl⟩ := hvf
                unfold maxLen at hk4 hv4
                have kr4 := ownsRow_cut kr3 hpos
                have vr4 := ownsRow_cut vr3 hpos
                have HK4 : ∀ u ∈ (kRow (kp L)).dropLast, u.oneCell' = true := fun u hu => HK2 u ((List.dropLast_sublist _).subset hu)
                have HV4 : ∀ u ∈ (vRow (kp L)).dropLast, u.oneCell' = true := fun u hu => HV2 u ((List.dropLast_sublist _).subset hu)
                have hlk : L.length - 1 ≤ kc := by omega
                have hlv : L.length - 1 ≤ vc := by omega
                clear hf hk1 hk2 hv1 hv2 HK2 HV2
                go_wp2_with (first
                  | (at_builtin; refine wpList_front rfl (.tmp 106) (.tmp 107) 26 rfl w.heap.size 2 (.int .i64 0) 8 info2m rfl Yba.underlying26 w3.heap.size (.int .i64 k) rfl (heap_alloc_new w3 _) hB3 (.slice (some ⟨kg, 0, none⟩) (L.length - 1) kc) (L.length - 1) _ rfl (kr4.alloc _) HK4 (by omega) (by omega) (by simp; omega) ?_; intro g7 cap7 w7 kr7 hc7; have hs7 := hc7.size; have vr7 := hc7.ownsRow (vr4.alloc _) (vrow_new vr4 w3.heap.size rfl))
                  | (at_builtin; refine wpList_front rfl (.tmp 110) (.tmp 111) 27 rfl w.heap.size 30 (.slice none 0 0) 24 info30m rfl Yba.underlying27 w7.heap.size (.slice (some ⟨pgb, 0, none⟩) 3 3) rfl (heap_alloc_new w7 _) (by simp at hs7; omega) (.slice (some ⟨vg, 0, none⟩) (L.length - 1) vc) (L.length - 1) _ rfl (vr7.alloc _) HV4 (by omega) (by omega) (by simp at hs7 ⊢; omega) ?_; intro g8 cap8 w8 vr8 hc8))
                go_roundg (len0 - (t + 1))
                case measure => omega
                case rel =>
                  refine ⟨t + 1, L', by omega, by go_num, ?_⟩
                  have hkp : kp L' = (k, .slice (some ⟨pgb, 0, none⟩) 3 3) :: (kp L).dropLast := by rw [HKP.out, putK, if_neg HNE.out, if_pos (by simpa [kp] using HF.out)]
                  have hlen' : L'.length = L.length - 1 + 1 := by rw [kp_len (L := L) hkp]; simp [kp]
                  have sd7 := (sd3.alloc _ hB3).kept hc7 (Aside.blk hB3 (heap_alloc_new w3 _) (by decide) (by decide) (by decide)) (by simp; omega)
                  have hB7 : w.heap.size ≤ w7.heap.size := by simp at hs7; omega
                  have sd8 := (sd7.alloc _ hB7).kept hc8 (Aside.blk hB7 (heap_alloc_new w7 _) (by decide) (by decide) (by decide)) (by simp; omega)
                  refine sd8.ms ?_ ?_
                  · rw [hlen', hkp, kRow, List.map_cons, List.map_dropLast]
                    exact hc8.ownsRow (kr7.alloc _) (vrow_new kr7 w7.heap.size rfl)
                  · rw [hlen', hkp, vRow, List.map_cons, List.map_dropLast]
                    exact vr8
              · have hg2 : ((L.length : Int) == (lim : Int)) = false := by rw [beq_eq_false_iff_ne]; omega
                go_wp2_with (first
                  | (at_builtin; refine wpList_front rfl (.tmp 106) (.tmp 107) 26 rfl w.heap.size 2 (.int .i64 0) 8 info2m rfl Yba.underlying26 w3.heap.size (.int .i64 k) rfl (heap_alloc_new w3 _) hB3 _ L.length _ rfl (kr3.alloc _) HK2 (by omega) (by omega) (by simp; omega) ?_; intro g7 cap7 w7 kr7 hc7; have hs7 := hc7.size; have vr7 := hc7.ownsRow (vr3.alloc _) (vrow_new vr3 w3.heap.size rfl))
                  | (at_builtin; refine wpList_front rfl (.tmp 110) (.tmp 111) 27 rfl w.heap.size 30 (.slice none 0 0) 24 info30m rfl Yba.underlying27 w7.heap.size (.slice (some ⟨pgb, 0, none⟩) 3 3) rfl (heap_alloc_new w7 _) (by simp at hs7; omega) _ L.length _ rfl (vr7.alloc _) HV2 (by omega) (by omega) (by simp at hs7 ⊢; omega) ?_; intro g8 cap8 w8 vr8 hc8))
                go_roundg (len0 - (t + 1))
                case measure => omega
                case rel =>
                  refine ⟨t + 1, L', by omega, by go_num, ?_⟩
                  have hkp : kp L' = (k, .slice (some ⟨pgb, 0, none⟩) 3 3) :: kp L := by rw [HKP.out, putK, if_neg HNE.out, if_neg (by simpa [kp] using hf)]
                  have hlen' : L'.length = L.length + 1 := by rw [kp_len (L := L) hkp]; simp [kp]
                  have sd7 := (sd3.alloc _ hB3).kept hc7 (Aside.blk hB3 (heap_alloc_new w3 _) (by decide) (by decide) (by decide)) (by simp; omega)
                  have hB7 : w.heap.size ≤ w7.heap.size := by simp at hs7; omega
                  have sd8 := (sd7.alloc _ hB7).kept hc8 (Aside.blk hB7 (heap_alloc_new w7 _) (by decide) (by decide) (by decide)) (by simp; omega)
                  refine sd8.ms ?_ ?_
                  · rw [hlen', hkp]
                    exact hc8.ownsRow (kr7.alloc _) (vrow_new kr7 w7.heap.size rfl)
                  · rw [hlen', hkp]
                    exact vr8
        · have ho0 : (op t % 3 == 0) = false := by simp [ho]
          have ho1 : (op t % 3 == 1) = true := by simp [ho]
          clear ho
          by_cases hk : k ∈ L.map Nd.n
          · rw [jAt_yes hk]
            obtain ⟨l1, x, l2, hL, hj, hxk⟩ := split_at1 L k hk
            generalize at1 (L.map Nd.n) k = j at *
            subst hL hxk hj
            have hjl : l1.length < (l1 ++ x :: l2).length := by simp
            have hn1 : (l1 ++ x :: l2).length - 1 = (l1 ++ l2).length := by simp
            generalize hN : (l1 ++ x :: l2).length = N at *
            have HN : Hid ((l1 ++ x :: l2).length = N) := hN
            have HN1 : Hid (N - 1 = (l1 ++ l2).length) := hn1
            clear hN hn1
            obtain ⟨pa, pl, pc, hpx⟩ := M1.cs.pgs x (by simp)
            have hget := get_yes M1.cs hsz1
            rw [hpx] at hget
            have hpok := M1.pg x (by simp)
            rw [hpx] at hpok
            have HPX : Hid (x.pg = .slice pa pl pc) := hpx
            clear hpx
            go_wp2_with fail
            refine Calls.mono hget ?_
            rintro e w4 ⟨rfl, hcs4, hfr4⟩
            have kr4 := hfr4.ownsRow M1.krow (by decide) (by decide)
            have vr4 := hfr4.ownsRow M1.vrow (by decide) (by decide)
            rw [HN.out] at kr4 vr4
            obtain ⟨kg, kcap, kcur, hkf, hk1, hk2, hk3, hk4, -⟩ := ownsRow_form kr4 (by omega)
            obtain ⟨vg, vcap, vcur, hvf, hv1, hv2, hv3, hv4, -⟩ := ownsRow_form vr4 (by omega)
            simp only [Value.slice.injEq] at hkf hvf
            obtain ⟨rfl, -, rfl⟩ := hkf
            obtain ⟨rfl, -, rfl⟩ := hvf
            unfold maxLen at hk4 hv4
            have hlk : l1.length ≤ kc := by omega
            have hlv : l1.length ≤ vc := by omega
            have hlN : l1.length + 1 ≤ N := by omega
            obtain ⟨adk, hadk, hork⟩ := tail_at kg l1.length N kc hjl hk3
            obtain ⟨adv, hadv, horv⟩ := tail_at vg l1.length N vc hjl hv3
            have HORK : Hid (adk = ⟨kg, l1.length + 1, none⟩ ∨ N = l1.length + 1) := hork
            have HORV : Hid (adv = ⟨vg, l1.length + 1, none⟩ ∨ N = l1.length + 1) := horv
            have HK1 := kRow_one (kp (l1 ++ x :: l2))
            have HV1 := vRow_one M1.pg
            have HV2 := vRow_one (L := l1 ++ l2) (w := w1) (fun y hy => M1.pg y (by simp at hy ⊢; rcases hy with h | h; exact Or.inl h; exact Or.inr (Or.inr h)))
            have hwr : IntKind.i64.wrap ((l1.length : Int) + 1) = (l1.length : Int) + 1 := by rw [IntKind.wrap_i64]; omega
            have htn : ((l1.length : Int) + 1).toNat = l1.length + 1 := by omega
            have hz1 : (0 : Int) ≤ (l1.length : Int) + 1 := by omega
            have hz2 : (l1.length : Int) + 1 ≤ (N : Int) := by omega
            have kr4d := (Chg.drew (fun _ => False) w4).ownsRow kr4 (fun _ _ h => h)
            have cv : w4.cell? ⟨vg, l1.length, none⟩ = some (.slice pa pl pc) := by
              rw [← HPX.out]
              exact ownsRow_cell vr4 (by simp [vRow, kp])
            have hs4 := hfr4.below.size
            clear hk hork horv hget
            go_wp2_with fail
            refine Calls.mono (equal_same w4 _ (hfr4.pgOk hpok)) ?_
            rintro e w4' ⟨rfl, rfl⟩
            go_wp2_with fail
            clear cv
            go_region_law (refine step_delete rfl (.tmp 132) (.tmp 136) 26 rfl w.heap.size 2 info2m Yba.underlying26 kr4d HK1 hjl adk (kc - (l1.length + 1)) HORK.out (by simp [Act.eval, Act.put]) (by simp [Act.eval, Act.put]) ?_; intro w5 kr5 hc5)
            have vr5 : w5.ownsRow w.heap.size 30 1 (.slice (some ⟨vg, 0, none⟩) N vc) N (vRow (kp (l1 ++ x :: l2))) := ((Chg.drew (fun i => i = kg) w4).trans hc5).ownsRow vr4 (fun i hi e => apart_rows' vr4 kr4 (by decide) i hi (by rw [e]; rfl))
            have vr5d := (Chg.drew (fun _ => False) w5).ownsRow vr5 (fun _ _ h => h)
            have hs5 := hc5.size
            go_wp2_with fail
            go_region_law (refine step_delete rfl (.tmp 140) (.tmp 144) 27 rfl w.heap.size 30 info30m Yba.underlying27 vr5d HV1 hjl adv (vc - (l1.length + 1)) HORV.out (by simp [Act.eval, Act.put]) (by simp [Act.eval, Act.put]) ?_; intro w6 vr6 hc6)
            have kr6 := ((Chg.drew (fun i => i = vg) w5).trans hc6).ownsRow kr5 (fun i hi e => apart_rows' kr5 vr5 (by decide) i hi (by rw [e]; rfl))
            have hs6 := hc6.size
            simp at hs5 hs6
            have sd4 : SD w.heap.size w w4 cb mb lim (x :: (l1 ++ l2)) := M1.sd.next hcs4 (fun y hy => Or.inl ⟨y, by simp at hy ⊢; rcases hy with h | h | h; exact Or.inr (Or.inl h); exact Or.inl h; exact Or.inr (Or.inr h), rfl⟩) hfr4
            have sd5 := sd4.drew.kept hc5 (Aside.row kr4d (by decide) (by decide) (by decide)) (by simp; omega)
            have sd6 := sd5.drew.kept hc6 (Aside.row vr5d (by decide) (by decide) (by decide)) (by simp; omega)
            rw [kRow_erase l1 l2 x] at kr6
            rw [vRow_erase l1 l2 x] at vr6
            have hB6 : w.heap.size ≤ w6.heap.size := by omega
            clear kr5 vr5 vr5d kr4 vr4 kr4d hc5 hc6 sd4 sd5 hcs4 hfr4 hk1 hk2 hv1 hv2 HK1 HV1
            have HK2 := kRow_one (kp (l1 ++ l2))
            go_wp2_with (first
              | (at_builtin; refine wpList_front rfl (.tmp 147) (.tmp 148) 26 rfl w.heap.size 2 (.int .i64 0) 8 info2m rfl Yba.underlying26 w6.heap.size (.int .i64 x.n) rfl (heap_alloc_new w6 _) hB6 (.slice (some ⟨kg, 0, none⟩) (N - 1) kc) (N - 1) _ rfl (kr6.alloc _) HK2 (by omega) (by omega) (by simp; omega) ?_; intro g7 cap7 w7 kr7 hc7; have hs7 := hc7.size; have vr7 := hc7.ownsRow (vr6.alloc _) (vrow_new vr6 w6.heap.size rfl))
              | (at_builtin; refine wpList_front rfl (.tmp 151) (.tmp 152) 27 rfl w.heap.size 30 (.slice none 0 0) 24 info30m rfl Yba.underlying27 w7.heap.size (.slice pa pl pc) rfl (heap_alloc_new w7 _) (by simp at hs7; omega) (.slice (some ⟨vg, 0, none⟩) (N - 1) vc) (N - 1) _ rfl (vr7.alloc _) HV2 (by omega) (by omega) (by simp at hs7 ⊢; omega) ?_; intro g8 cap8 w8 vr8 hc8))
            go_roundg (len0 - (t + 1))
            case measure => omega
            case rel =>
              refine ⟨t + 1, x :: (l1 ++ l2), by omega, by go_num, ?_⟩
              have hlen' : (x :: (l1 ++ l2)).length = N - 1 + 1 := by rw [HN1.out]; simp
              have sd7 := (sd6.alloc _ hB6).kept hc7 (Aside.blk hB6 (heap_alloc_new w6 _) (by decide) (by decide) (by decide)) (by simp; omega)
              have hB7 : w.heap.size ≤ w7.heap.size := by simp at hs7; omega
              have sd8 := (sd7.alloc _ hB7).kept hc8 (Aside.blk hB7 (heap_alloc_new w7 _) (by decide) (by decide) (by decide)) (by simp; omega)
              refine sd8.ms ?_ ?_
              · rw [hlen']
                exact hc8.ownsRow (kr7.alloc _) (vrow_new kr7 w7.heap.size rfl)
              · rw [hlen']
                have e : vRow (kp (x :: (l1 ++ l2))) = .slice pa pl pc :: vRow (kp (l1 ++ l2)) := by rw [← HPX.out]; rfl
                rw [e]
                exact vr8
          · have HJ : Hid (jAt (L.map Nd.n) k = -1) := jAt_no hk
            have hj0 : jAt (L.map Nd.n) k < 0 := by rw [HJ.out]; omega
            have hsn := fun (W : World) => run_neq_slice_nil_any (P := Yba.prog) W 30 5 none 0 0 0 0 Yba.underlying30
            go_wp2_with fail
            refine Calls.mono (get_no M1.cs k hk hsz1) ?_
            rintro e w4 ⟨rfl, hcs4, hfr4⟩
            go_wp2
            go_roundg (len0 - (t + 1))
            case measure => omega
            case rel => exact ⟨t + 1, L, by omega, by go_num, M1.next hcs4 rfl hfr4⟩
        · have ho0 : (op t % 3 == 0) = false := by simp [ho]
          have ho1 : (op t % 3 == 1) = false := by simp [ho]
          clear ho
          by_cases hk : k ∈ L.map Nd.n
          · rw [jAt_yes hk]
            obtain ⟨l1, x, l2, hL, hj, hxk⟩ := split_at1 L k hk
            generalize at1 (L.map Nd.n) k = j at *
            subst hL hxk hj
            have hjl : l1.length < (l1 ++ x :: l2).length := by simp
            have hn1 : (l1 ++ x :: l2).length - 1 = (l1 ++ l2).length := by simp
            generalize hN : (l1 ++ x :: l2).length = N at *
            have HN : Hid ((l1 ++ x :: l2).length = N) := hN
            have HN1 : Hid (N - 1 = (l1 ++ l2).length) := hn1
            clear hN hn1
            go_wp2_with fail
            refine Calls.mono (drop_yes M1.cs hsz1) ?_
            rintro e w4 ⟨rfl, hcs4, hfr4⟩
            have kr4 := hfr4.ownsRow M1.krow (by decide) (by decide)
            have vr4 := hfr4.ownsRow M1.vrow (by decide) (by decide)
            rw [HN.out] at kr4 vr4
            obtain ⟨kg, kcap, kcur, hkf, hk1, hk2, hk3, hk4, -⟩ := ownsRow_form kr4 (by omega)
            obtain ⟨vg, vcap, vcur, hvf, hv1, hv2, hv3, hv4, -⟩ := ownsRow_form vr4 (by omega)
            simp only [Value.slice.injEq] at hkf hvf
            obtain ⟨rfl, -, rfl⟩ := hkf
            obtain ⟨rfl, -, rfl⟩ := hvf
            unfold maxLen at hk4 hv4
            have hlk : l1.length ≤ kc := by omega
            have hlv : l1.length ≤ vc := by omega
            have hlN : l1.length + 1 ≤ N := by omega
            obtain ⟨adk, hadk, hork⟩ := tail_at kg l1.length N kc hjl hk3
            obtain ⟨adv, hadv, horv⟩ := tail_at vg l1.length N vc hjl hv3
            have HORK : Hid (adk = ⟨kg, l1.length + 1, none⟩ ∨ N = l1.length + 1) := hork
            have HORV : Hid (adv = ⟨vg, l1.length + 1, none⟩ ∨ N = l1.length + 1) := horv
            have HK1 := kRow_one (kp (l1 ++ x :: l2))
            have HV1 := vRow_one M1.pg
            have hwr : IntKind.i64.wrap ((l1.length : Int) + 1) = (l1.length : Int) + 1 := by rw [IntKind.wrap_i64]; omega
            have htn : ((l1.length : Int) + 1).toNat = l1.length + 1 := by omega
            have hz1 : (0 : Int) ≤ (l1.length : Int) + 1 := by omega
            have hz2 : (l1.length : Int) + 1 ≤ (N : Int) := by omega
            have kr4d := (Chg.drew (fun _ => False) w4).ownsRow kr4 (fun _ _ h => h)
            clear hk hork horv
            go_wp2_with fail
            go_region_law (refine step_delete rfl (.tmp 63) (.tmp 67) 26 rfl w.heap.size 2 info2m Yba.underlying26 kr4d HK1 hjl adk (kc - (l1.length + 1)) HORK.out (by simp [Act.eval, Act.put]) (by simp [Act.eval, Act.put]) ?_; intro w5 kr5 hc5)
            have vr5 : w5.ownsRow w.heap.size 30 1 (.slice (some ⟨vg, 0, none⟩) N vc) N (vRow (kp (l1 ++ x :: l2))) := ((Chg.drew (fun i => i = kg) w4).trans hc5).ownsRow vr4 (fun i hi e => apart_rows' vr4 kr4 (by decide) i hi (by rw [e]; rfl))
            have vr5d := (Chg.drew (fun _ => False) w5).ownsRow vr5 (fun _ _ h => h)
            go_wp2_with fail
            go_region_law (refine step_delete rfl (.tmp 71) (.tmp 75) 27 rfl w.heap.size 30 info30m Yba.underlying27 vr5d HV1 hjl adv (vc - (l1.length + 1)) HORV.out (by simp [Act.eval, Act.put]) (by simp [Act.eval, Act.put]) ?_; intro w6 vr6 hc6)
            go_wp2
            go_roundg (len0 - (t + 1))
            case measure => omega
            case rel =>
              refine ⟨t + 1, l1 ++ l2, by omega, by go_num, ?_⟩
              have hs4 := hfr4.below.size
              have sd4 : SD w.heap.size w w4 cb mb lim (l1 ++ l2) := M1.sd.next hcs4 (fun y hy => Or.inl ⟨y, by simp at hy ⊢; rcases hy with h | h; exact Or.inl h; exact Or.inr (Or.inr h), rfl⟩) hfr4
              have sd5 := sd4.drew.kept hc5 (Aside.row kr4d (by decide) (by decide) (by decide)) (by simp; omega)
              have hs5 := hc5.size
              have sd6 := sd5.drew.kept hc6 (Aside.row vr5d (by decide) (by decide) (by decide)) (by simp at hs5 ⊢; omega)
              refine sd6.ms ?_ ?_
              · rw [← kRow_erase l1 l2 x, ← HN1.out]
                exact ((Chg.drew (fun i => i = vg) w5).trans hc6).ownsRow kr5 (fun i hi e => apart_rows' kr5 vr5 (by decide) i hi (by rw [e]; rfl))
              · rw [← vRow_erase l1 l2 x, ← HN1.out]
                exact vr6
          · have HJ : Hid (jAt (L.map Nd.n) k = -1) := jAt_no hk
            have hj0 : jAt (L.map Nd.n) k < 0 := by rw [HJ.out]; omega
            go_wp2_with fail
            refine Calls.mono (drop_no M1.cs k hk hsz1) ?_
            rintro e w4 ⟨rfl, hcs4, hfr4⟩
            go_wp2
            go_roundg (len0 - (t + 1))
            case measure => omega
            case rel => exact ⟨t + 1, L, by omega, by go_num, M1.next hcs4 rfl hfr4⟩
    · obtain rfl : t = len0 := by omega
      have hlenr := D.cs.len_run (w' := wr) rfl
      have c3 := D.cs.c3
      obtain ⟨ka, kc, hkv⟩ := len_of D.krow
      obtain ⟨va, vc, hvv⟩ := len_of D.vrow
      subst hkv hvv
      have hsz := D.bel.size
      have hLn : L.length ≤ 127 := by have := D.cs.len; omega
      have c7 := D.cs.ls.path.nx_start
      have c7' := D.cs.ls.path.pv_start
      obtain ⟨nb, no, hhd, hor⟩ := headA_form cb L
      rw [hhd] at c7 c7'
      have HHD : Hid (headA (L.map Nd.addr) ⟨cb, 4, none⟩ = ⟨nb, no, none⟩) := hhd
      clear hhd hor
      go_wp2
      go_loopg [17, 18] L.length (fun gk p i wx => ∃ j : Nat, gk + j = L.length ∧ i = .int .i64 j ∧ p = ptr (headA ((L.drop j).map Nd.addr) ⟨cb, 4, none⟩) ∧ MS w.heap.size w wx cb mb lim (.slice ka L.length kc) (.slice va L.length vc) L)
      case atStart => exact ⟨0, by omega, by go_num, by rw [List.drop_zero, HHD.out], D⟩
      case round =>
        obtain ⟨j, hgj, rfl, rfl, M⟩ := hrel
        clear c7 c7' c3 hlenr
        have c3 := M.cs.c3
        by_cases hjl : j < L.length
        · obtain ⟨l1, x, l2, hL, hj⟩ := split_len L j hjl
          obtain ⟨hd1, hd2⟩ := head_drop L l1 l2 x ⟨cb, 4, none⟩ hL j hj
          rw [hd2]
          have HD1 : Hid (headA ((L.drop (j + 1)).map Nd.addr) ⟨cb, 4, none⟩ = headA (l2.map Nd.addr) ⟨cb, 4, none⟩) := hd1
          clear hd1 hd2
          have hx : x ∈ L := by rw [hL]; simp
          have hget : L[j]? = some x := by rw [hL, ← hj]; simp
          have HL : Hid (L = l1 ++ x :: l2) := hL
          clear hL hj
          obtain ⟨hshx, hx0, hx1⟩ := M.cs.ls.nodes x hx
          obtain ⟨pa, pl, pc, hpx⟩ := M.cs.pgs x hx
          have hpok := M.pg x hx
          obtain ⟨kg, kcap, kcur, hkf, hk1, hk2, hk3, hk4, -⟩ := ownsRow_form M.krow (by omega)
          obtain ⟨vg, vcap, vcur, hvf, hv1, hv2, hv3, hv4, -⟩ := ownsRow_form M.vrow (by omega)
          simp only [Value.slice.injEq] at hkf hvf
          obtain ⟨rfl, -, rfl⟩ := hkf
          obtain ⟨rfl, -, rfl⟩ := hvf
          have ck : wr.cell? ⟨kg, j, none⟩ = some (.int .i64 x.n) := ownsRow_cell M.krow (by simp [kRow, kp, hget])
          have cv : wr.cell? ⟨vg, j, none⟩ = some x.pg := ownsRow_cell M.vrow (by simp [vRow, kp, hget])
          rw [hpx] at hx1 hpok cv
          have hpth : Path wr x.addr (l2.map Nd.addr) ⟨cb, 4, none⟩ := by
            have := M.cs.ls.path
            rw [HL.out, List.map_append, List.map_cons, Path.split] at this
            exact this.2
          have hn3 := hpth.nx_start
          have hn2 := hpth.pv_start
          obtain ⟨nb, no, hhd, -⟩ := headA_form cb l2
          rw [hhd] at hn3 hn2
          have HHD2 : Hid (headA (l2.map Nd.addr) ⟨cb, 4, none⟩ = ⟨nb, no, none⟩) := hhd
          clear hhd hpth
          obtain ⟨cc, hcb, -⟩ := M.cs.ls.shp
          obtain ⟨cx, hcx, -⟩ := hshx
          have hne := M.cs.ls.cbne x hx
          have hE := run_eqPtr_apart (P := Yba.prog) wr 44 46 3 Yba.underlying44 (by kernel_rfl) x.b cb 0 4 hne hcx hcb
          have hNE := fun N => run_nePtr_block (P := Yba.prog) (wr.drewN N) 44 46 3 Yba.underlying44 (by kernel_rfl) x.b 0 0
          have hlk := fun N => M.cs.look_hit (w' := wr.drewN N) rfl hx
          have hbe : ∀ N, Calls Yba.prog 10 #[.slice pa pl pc, .slice pa pl pc] (wr.drewN N) fun e w' => e = .returned (.bool true) ∧ w' = wr.drewN N := fun N => (equal_same (wr.drewN N) _ hpok).mono (fun e w' h => ⟨h.1, h.2.symm⟩)
          have HM : Hid (MS w.heap.size w wr cb mb lim (.slice (some ⟨kg, 0, none⟩) L.length kc) (.slice (some ⟨vg, 0, none⟩) L.length vc) L) := M
          clear M hpx hk1 hk2 hv1 hv2 hpok hget hx hcb hcx hne
          go_wp2
          go_quiet ((go_at_call 10; exact Calls.quiet_of_same (hbe _)))
          go_wp2
          go_roundg (L.length - (j + 1))
          case measure => omega
          case rel =>
            exact ⟨j + 1, by omega, by go_num, by rw [HD1.out, HHD2.out], HM.out.drewN _⟩
        · obtain rfl : j = L.length := by omega
          rw [List.drop_length]
          have c7 := M.cs.ls.path.nx_start
          have c7' := M.cs.ls.path.pv_start
          obtain ⟨nb, no, hhd, -⟩ := headA_form cb L
          rw [hhd] at c7 c7'
          have hE := fun N => run_eqPtr_block (P := Yba.prog) (wr.drewN N) 44 46 3 Yba.underlying44 (by kernel_rfl) cb 4 4
          have hE0 := run_eqPtr_block (P := Yba.prog) wr 44 46 3 Yba.underlying44 (by kernel_rfl) cb 4 4
          have HM : Hid (MS w.heap.size w wr cb mb lim (.slice ka L.length kc) (.slice va L.length vc) L) := M
          clear M hhd
          simp only [List.map_nil, headA, List.head?_nil, Option.getD_none]
          go_wp2
          go_quiet (fail)
          go_wp2
          go_ret
          exact ⟨rfl, (HM.out.drewN _).bel⟩
end Go.Proofs.Ybulkamoo
