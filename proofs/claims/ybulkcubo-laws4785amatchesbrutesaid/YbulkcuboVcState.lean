/-
  The states of the walk of LawS4785AMatchesBrute: the current clocks, the log of clocks and owners.
-/
import Derived.Test.YbulkcuboVcParts
import Derived.Test.YbulkcuboVcOpen
namespace Go.Proofs.Ybulkcubo
open Go.RowKit

theorem info24 : (Yba.prog.info? 24).map (fun i => (i.zero, i.size, i.bytes)) = some (some (.slice none 0 0), 1, 24) := by kernel_rfl
theorem info29 : (Yba.prog.info? 29).map (fun i => (i.zero, i.size, i.bytes)) = some (some (.int .u64 0), 1, 8) := by kernel_rfl
theorem info3 : (Yba.prog.info? 3).map (fun i => (i.zero, i.size, i.bytes)) = some (some (.int .i64 0), 1, 8) := by kernel_rfl
theorem info21 : (Yba.prog.info? 21).map (fun i => (i.zero, i.size, i.bytes)) = some (some (.int .i32 0), 1, 4) := by kernel_rfl
theorem info32 : (Yba.prog.info? 32).map (fun i => (i.zero, i.size, i.bytes)) = some (some (.pointer none), 1, 8) := by kernel_rfl

/-- The row of the current clocks, when the first r are made. -/
def curUpto (N nh r : Nat) : Array Value := ((List.range nh).map fun h => if h < r then Value.slice (some ⟨N + 1 + h, 0, none⟩) nh nh else .slice none 0 0).toArray

theorem curUpto_zero (N nh : Nat) : madeCells #[.slice none 0 0] nh = curUpto N nh 0 := by
  apply Array.ext_getElem?
  intro i
  by_cases h : i < nh
  · simp [madeCells, curUpto, h, Nat.mod_one]
  · simp [madeCells, curUpto, h]
theorem curUpto_set (N nh : Nat) {r : Nat} (hr : r < nh) : (curUpto N nh r).setIfInBounds r (.slice (some ⟨N + 1 + r, 0, none⟩) nh nh) = curUpto N nh (r + 1) := by
  apply Array.ext_getElem?
  intro i
  rw [Array.getElem?_setIfInBounds]
  by_cases h : i < nh
  · by_cases e : r = i
    · subst e
      simp [curUpto, hr]
    · have : i < r ↔ i < r + 1 := by omega
      simp [curUpto, h, e, this]
  · simp [curUpto, h]
    omega

theorem frozen_row {W : World} {g : Nat} {cs : Array Value} {t : TypeId} (h : W.heap[g]? = some (.cells cs t (0, 0))) (o : Nat) : W.frozen? ⟨g, o, none⟩ = false := by
  unfold World.frozen?
  rw [h]
  simp

structure St1 (w : World) (nh : Nat) (wr : World) (r : Nat) : Prop where
  bel : Below w.heap.size w wr
  size : wr.heap.size = w.heap.size + 1 + r
  row : wr.heap[w.heap.size]? = some (.cells (curUpto w.heap.size nh r) 24 (0, 0))
  curs : ∀ h, h < r → At wr (w.heap.size + 1 + h) nh (fun _ => 0)

theorem St1.start (w : World) (nh : Nat) : St1 w nh (w.alloc (.cells (madeCells #[.slice none 0 0] nh) 24)) 0 := by
  refine ⟨(Below.refl _ _).alloc (Nat.le_refl _) _, by simp, ?_, fun h hh => absurd hh (by omega)⟩
  rw [World.alloc_heap_new, curUpto_zero w.heap.size]

theorem St1.next {w wr : World} {nh r : Nat} (s : St1 w nh wr r) (hr : r < nh) :
    St1 w nh ((wr.setCell ⟨w.heap.size, r, none⟩ (.slice (some ⟨wr.heap.size, 0, none⟩) nh nh)).alloc (.cells (madeCells #[.int .u64 0] nh) 29)) (r + 1) := by
  have hsz := s.size
  have hs2 : (wr.setCell ⟨w.heap.size, r, none⟩ (.slice (some ⟨wr.heap.size, 0, none⟩) nh nh)).heap.size = wr.heap.size := by simp
  refine ⟨(s.bel.setCell (p := ⟨w.heap.size, r, none⟩) (Nat.le_refl _) _).alloc (by rw [hs2]; exact s.bel.size) _, by simp [hsz]; omega, ?_, fun h hh => ?_⟩
  · rw [heap_alloc _ _ (by rw [hs2]; omega), heap_set s.row, hsz, curUpto_set _ _ hr]
  · by_cases e : h = r
    · subst e
      have := At.made (wr.setCell ⟨w.heap.size, h, none⟩ (.slice (some ⟨wr.heap.size, 0, none⟩) nh nh)) nh
      rw [hs2] at this
      rw [← hsz]
      exact this
    · refine At.same ?_ (heap_alloc _ _ (by rw [hs2]; omega))
      exact (s.curs h (by omega)).same (heap_set_ne _ _ _ (by omega))

theorem St1.cell {w wr : World} {nh r : Nat} (s : St1 w nh wr r) {h : Nat} (hh : h < nh) : wr.cell? ⟨w.heap.size, h, none⟩ = some (if h < r then .slice (some ⟨w.heap.size + 1 + h, 0, none⟩) nh nh else .slice none 0 0) := by
  rw [cell_of_row wr _ _ _ _ _ s.row]
  simp [curUpto, hh]

/-- The clocks and the owners in memory. -/
structure Mem2 (w : World) (nh : Nat) (wr : World) (cur : Nat → Vc) (n : Nat) (own : Nat → Nat) (vc : Nat → Vc) (g : Nat → Nat) (v8 v9 : Value) : Prop where
  bel : Below w.heap.size w wr
  big : w.heap.size + nh < wr.heap.size
  row : wr.heap[w.heap.size]? = some (.cells (curUpto w.heap.size nh nh) 24 (0, 0))
  curs : ∀ h, h < nh → At wr (w.heap.size + 1 + h) nh (cur h)
  own8 : wr.ownsRow (w.heap.size + 1) 24 1 v8 n ((List.range n).map fun i => .slice (some ⟨g i, 0, none⟩) nh nh)
  own9 : wr.ownsRow (w.heap.size + 1) 3 1 v9 n ((List.range n).map fun i => .int .i64 (own i : Int))
  vcs : ∀ i, i < n → w.heap.size + nh < g i ∧ At wr (g i) nh (vc i)

/-- .. and what is true of them. -/
structure Fit (nh : Nat) (cur : Nat → Vc) (n : Nat) (own : Nat → Nat) (vc : Nat → Vc) : Prop where
  log : Log nh own vc n
  cons : ∀ h, h < nh → Cons nh own vc n (cur h) ∧ cur h h = cntO own h n

theorem Mem2.start {w wr : World} {nh : Nat} (s : St1 w nh wr nh) : Mem2 w nh wr (fun _ _ => 0) 0 (fun _ => 0) (fun _ _ => 0) (fun _ => 0) (.slice none 0 0) (.slice none 0 0) := by
  have := s.size
  exact ⟨s.bel, by omega, s.row, s.curs, World.ownsRow_nil _ _ _ _, World.ownsRow_nil _ _ _ _, fun i hi => absurd hi (by omega)⟩
theorem Fit.start (nh : Nat) : Fit nh (fun _ _ => 0) 0 (fun _ => 0) (fun _ _ => 0) :=
  ⟨⟨fun i hi => absurd hi (by omega), fun i hi => absurd hi (by omega), fun i hi => absurd hi (by omega), fun i hi => absurd hi (by omega)⟩, fun h hh => ⟨⟨fun i hi => absurd hi (by omega), fun o ho => Nat.zero_le _⟩, rfl⟩⟩

theorem Mem2.cell {w wr : World} {nh n : Nat} {cur vc : Nat → Vc} {own g : Nat → Nat} {v8 v9 : Value} (s : Mem2 w nh wr cur n own vc g v8 v9) {h : Nat} (hh : h < nh) : wr.cell? ⟨w.heap.size, h, none⟩ = some (.slice (some ⟨w.heap.size + 1 + h, 0, none⟩) nh nh) := by
  rw [cell_of_row wr _ _ _ _ _ s.row]
  simp [curUpto, hh]

/-- Another world in which all that counts lies as it lay. -/
theorem Mem2.same {w wr W : World} {nh n : Nat} {cur vc : Nat → Vc} {own g : Nat → Nat} {v8 v9 : Value} (s : Mem2 w nh wr cur n own vc g v8 v9) (hb : Below wr.heap.size wr W) : Mem2 w nh W cur n own vc g v8 v9 := by
  have hs := s.big
  have hg : wr.grownBy W none := ⟨hb.os, hb.tape, hb.output, hb.size, fun k hk _ => hb.block k hk⟩
  exact ⟨s.bel.trans (hb.mono (by omega)), Nat.lt_of_lt_of_le s.big hb.size, (hb.block _ (by omega)).trans s.row, fun h hh => (s.curs h hh).same (hb.block _ (s.curs h hh).lt),
    s.own8.kept hg (by cases v8.ownBlock <;> simp), s.own9.kept hg (by cases v9.ownBlock <;> simp), fun i hi => ⟨(s.vcs i hi).1, (s.vcs i hi).2.same (hb.block _ (s.vcs i hi).2.lt)⟩⟩

theorem Mem2.alloc {w wr : World} {nh n : Nat} {cur vc : Nat → Vc} {own g : Nat → Nat} {v8 v9 : Value} (s : Mem2 w nh wr cur n own vc g v8 v9) (o : Obj) : Mem2 w nh (wr.alloc o) cur n own vc g v8 v9 :=
  s.same ((Below.refl _ _).alloc (Nat.le_refl _) _)

theorem Mem2.drew {w wr : World} {nh n : Nat} {cur vc : Nat → Vc} {own g : Nat → Nat} {v8 v9 : Value} (s : Mem2 w nh wr cur n own vc g v8 v9) (m : Nat) : Mem2 w nh (wr.drewN m) cur n own vc g v8 v9 :=
  s.same ⟨rfl, rfl, rfl, Nat.le_refl _, fun _ _ => rfl⟩

theorem Mem2.congr {w wr : World} {nh n : Nat} {cur cur' vc : Nat → Vc} {own g : Nat → Nat} {v8 v9 : Value} (s : Mem2 w nh wr cur n own vc g v8 v9) (h : ∀ x, x < nh → ∀ o, o < nh → cur x o = cur' x o) : Mem2 w nh wr cur' n own vc g v8 v9 :=
  { s with curs := fun x hx => (s.curs x hx).congr (h x hx) }

/-- A store into the current clock of host a. -/
theorem Mem2.setcur {w wr : World} {nh n : Nat} {cur vc : Nat → Vc} {own g : Nat → Nat} {v8 v9 : Value} (s : Mem2 w nh wr cur n own vc g v8 v9) {a : Nat} (ha : a < nh) (o x : Nat) :
    Mem2 w nh (wr.setCell ⟨w.heap.size + 1 + a, o, none⟩ (.int .u64 (x : Int))) (fun h => if h = a then upd (cur h) o x else cur h) n own vc g v8 v9 := by
  have hg := grownBy_set1 wr (w.heap.size + 1 + a) o (.int .u64 (x : Int))
  have ht := s.curs a ha
  refine ⟨s.bel.setCell (p := ⟨w.heap.size + 1 + a, o, none⟩) (by show w.heap.size ≤ w.heap.size + 1 + a; omega) _, by simpa using s.big, (heap_set_ne _ _ _ (by omega)).trans s.row, fun h hh => ?_, s.own8.kept hg ?_, s.own9.kept hg ?_, fun i hi => ⟨(s.vcs i hi).1, (s.vcs i hi).2.same (heap_set_ne _ _ _ ?_)⟩⟩
  · by_cases e : h = a
    · subst e
      rw [if_pos rfl]
      exact (s.curs h hh).set o x
    · rw [if_neg e]
      exact (s.curs h hh).same (heap_set_ne _ _ _ (by omega))
  · rcases hb : v8.ownBlock with _ | k
    · exact .inl rfl
    · right
      intro e
      cases e
      obtain ⟨_, c, h2⟩ := own_block s.own8 hb
      rw [show wr.heap[w.heap.size + 1 + a]? = _ from ht] at h2
      cases h2
  · rcases hb : v9.ownBlock with _ | k
    · exact .inl rfl
    · right
      intro e
      cases e
      obtain ⟨_, c, h2⟩ := own_block s.own9 hb
      rw [show wr.heap[w.heap.size + 1 + a]? = _ from ht] at h2
      cases h2
  · have := (s.vcs i hi).1
    omega

/-- The new clock's copy goes into the log, its owner too. -/
theorem Mem2.push8 {w wr W : World} {nh n : Nat} {cur vc : Nat → Vc} {own g : Nat → Nat} {v8 v9 : Value} (s : Mem2 w nh wr cur n own vc g v8 v9) {gn : Nat} (hgn : w.heap.size + nh < gn) {u : Vc} (hu : At wr gn nh u) {g' c' : Nat}
    (h1 : W.ownsRow (w.heap.size + 1) 24 1 (.slice (some ⟨g', 0, none⟩) (n + 1) c') (n + 1) ((List.range n).map (fun i => Value.slice (some ⟨g i, 0, none⟩) nh nh) ++ [.slice (some ⟨gn, 0, none⟩) nh nh])) (h2 : wr.grownBy W v8.ownBlock) :
    Below w.heap.size w W ∧ w.heap.size + nh < W.heap.size ∧ W.heap[w.heap.size]? = some (.cells (curUpto w.heap.size nh nh) 24 (0, 0)) ∧ (∀ h, h < nh → At W (w.heap.size + 1 + h) nh (cur h)) ∧
    W.ownsRow (w.heap.size + 1) 24 1 (.slice (some ⟨g', 0, none⟩) (n + 1) c') (n + 1) ((List.range (n + 1)).map fun i => .slice (some ⟨snoc g n gn i, 0, none⟩) nh nh) ∧
    W.ownsRow (w.heap.size + 1) 3 1 v9 n ((List.range n).map fun i => .int .i64 (own i : Int)) ∧ ∀ i, i < n + 1 → w.heap.size + nh < snoc g n gn i ∧ At W (snoc g n gn i) nh (snoc vc n u i) := by
  have keep : ∀ k u, At wr k nh u → At W k nh u := fun k u hk => hk.same (grown_keeps s.own8 h2 hk.lt (.inr ⟨_, _, _, hk, by decide⟩))
  have hbig := s.big
  refine ⟨s.bel.grown h2 (by omega) (fun k e => ?_), Nat.lt_of_lt_of_le s.big h2.size, (grown_keeps s.own8 h2 (by omega) (.inl (by omega))).trans s.row, fun h hh => keep _ _ (s.curs h hh), ?_, s.own9.kept h2 ?_, fun i hi => ?_⟩
  · have := (own_block s.own8 e).1
    omega
  · have e : (List.range (n + 1)).map (fun i => Value.slice (some ⟨snoc g n gn i, 0, none⟩) nh nh) = (List.range n).map (fun i => Value.slice (some ⟨g i, 0, none⟩) nh nh) ++ [.slice (some ⟨gn, 0, none⟩) nh nh] := by
      rw [List.range_succ, List.map_append]
      congr 1
      · exact List.map_congr_left fun i hi => by rw [snoc_lt g gn (List.mem_range.1 hi)]
      · simp [snoc_at]
    rw [e]
    exact h1
  · rcases hb : v9.ownBlock with _ | k
    · exact .inl rfl
    · right
      intro e
      obtain ⟨_, c, h3⟩ := own_block s.own9 hb
      obtain ⟨_, c', h4⟩ := own_block s.own8 e.symm
      rw [h3] at h4
      cases h4
  · by_cases e : i = n
    · subst e
      rw [snoc_at, snoc_at]
      exact ⟨hgn, keep _ _ hu⟩
    · rw [snoc_lt g gn (by omega), snoc_lt vc u (by omega)]
      exact ⟨(s.vcs i (by omega)).1, keep _ _ (s.vcs i (by omega)).2⟩

theorem Mem2.push9 {w wr W : World} {nh n : Nat} {cur vc : Nat → Vc} {own g : Nat → Nat} {v8 v9 : Value}
    (s : Below w.heap.size w wr ∧ w.heap.size + nh < wr.heap.size ∧ wr.heap[w.heap.size]? = some (.cells (curUpto w.heap.size nh nh) 24 (0, 0)) ∧ (∀ h, h < nh → At wr (w.heap.size + 1 + h) nh (cur h)) ∧
      wr.ownsRow (w.heap.size + 1) 24 1 v8 (n + 1) ((List.range (n + 1)).map fun i => .slice (some ⟨g i, 0, none⟩) nh nh) ∧
      wr.ownsRow (w.heap.size + 1) 3 1 v9 n ((List.range n).map fun i => .int .i64 (own i : Int)) ∧ ∀ i, i < n + 1 → w.heap.size + nh < g i ∧ At wr (g i) nh (vc i)) {A g' c' : Nat}
    (h1 : W.ownsRow (w.heap.size + 1) 3 1 (.slice (some ⟨g', 0, none⟩) (n + 1) c') (n + 1) ((List.range n).map (fun i => Value.int .i64 (own i : Int)) ++ [.int .i64 (A : Int)])) (h2 : wr.grownBy W v9.ownBlock) :
    Mem2 w nh W cur (n + 1) (snoc own n A) vc g v8 (.slice (some ⟨g', 0, none⟩) (n + 1) c') := by
  obtain ⟨bel, big, row, curs, own8, own9, vcs⟩ := s
  have keep : ∀ k u, At wr k nh u → At W k nh u := fun k u hk => hk.same (grown_keeps own9 h2 hk.lt (.inr ⟨_, _, _, hk, by decide⟩))
  refine ⟨bel.grown h2 (by omega) (fun k e => ?_), Nat.lt_of_lt_of_le big h2.size, (grown_keeps own9 h2 (by omega) (.inl (by omega))).trans row, fun h hh => keep _ _ (curs h hh), own8.kept h2 ?_, ?_, fun i hi => ⟨(vcs i hi).1, keep _ _ (vcs i hi).2⟩⟩
  · have := (own_block own9 e).1
    omega
  · rcases hb : v8.ownBlock with _ | k
    · exact .inl rfl
    · right
      intro e
      obtain ⟨_, c, h3⟩ := own_block own8 hb
      obtain ⟨_, c', h4⟩ := own_block own9 e.symm
      rw [h3] at h4
      cases h4
  · have e : (List.range (n + 1)).map (fun i => Value.int .i64 ((snoc own n A i : Nat) : Int)) = (List.range n).map (fun i => Value.int .i64 (own i : Int)) ++ [.int .i64 (A : Int)] := by
      rw [List.range_succ, List.map_append]
      congr 1
      · exact List.map_congr_left fun i hi => by rw [snoc_lt own A (List.mem_range.1 hi)]
      · simp [snoc_at]
    rw [e]
    exact h1

/-- A clock copied over another. -/
theorem copy_clock {W : World} {gs gd nh : Nat} {u v : Vc} (hs : At W gs nh u) (hd : At W gd nh v) (ty : TypeId) :
    (Builtin.copy_ #[24, 24] ty #[.slice (some ⟨gd, 0, none⟩) nh nh, .slice (some ⟨gs, 0, none⟩) nh nh]).run Yba.prog W = .ok (goInt nh) (W.setRow gd (rowV nh u).toArray) := by
  have h := run_copy_row (P := Yba.prog) W 24 24 ty 29 gd 0 nh nh ⟨gs, 0, none⟩ nh nh (rowV nh v).toArray 29 (rowV nh u) Yba.underlying24 (by kernel_rfl) hd (by rw [rowV_length]; simp) (fun j x hj => ?_) (by simp [rowV_length]) (fun x hx => ?_)
  · have e : List.drop nh (rowV nh v) = [] := List.drop_eq_nil_of_le (by rw [rowV_length]; exact Nat.le_refl _)
    rw [h]
    simp [rowV_length, e]
  · have hlt : j < nh := by
      have := (List.getElem?_eq_some_iff.1 hj).1
      rwa [rowV_length] at this
    rw [rowV_at u hlt] at hj
    cases hj
    have := hs.cell hlt
    by_cases h0 : j = 0
    · subst h0
      simpa [Addr.add] using this
    · simpa [Addr.add, h0] using this
  · obtain ⟨o, _, rfl⟩ := List.mem_map.1 hx
    rfl

theorem Fit.next {nh n : Nat} {cur vc : Nat → Vc} {own : Nat → Nat} (f : Fit nh cur n own vc) {a : Nat} (ha : a < nh) : Fit nh (fun h => if h = a then bump (cur h) a else cur h) (n + 1) (snoc own n a) (snoc vc n (bump (cur a) a)) := by
  obtain ⟨c1, c2⟩ := f.cons a ha
  refine ⟨log_snoc f.log c1 a ha c2, fun h hh => ?_⟩
  by_cases e : h = a
  · subst e
    simp only [if_true]
    refine ⟨cons_new c1 h c2, ?_⟩
    rw [cntO_snoc_succ]
    simp [bump, c2]
  · simp only [if_neg e]
    refine ⟨cons_old (f.cons h hh).1 a ha _, ?_⟩
    rw [cntO_snoc_succ, if_neg (fun x => e x.symm), (f.cons h hh).2]
    rfl

theorem Fit.merge {nh n : Nat} {cur vc : Nat → Vc} {own : Nat → Nat} (f : Fit nh cur n own vc) {a j : Nat} (_ha : a < nh) (hj : j < n) : Fit nh (fun h => if h = a then (fun o => max (cur h o) (vc j o)) else cur h) n own vc := by
  refine ⟨f.log, fun h hh => ?_⟩
  by_cases e : h = a
  · subst e
    simp only [if_true]
    refine ⟨cons_max (f.cons h hh).1 (f.log.cons j hj), ?_⟩
    rw [(f.cons h hh).2]
    exact Nat.max_eq_left ((f.log.cons j hj).2 h hh)
  · simp only [if_neg e]
    exact f.cons h hh

theorem Fit.small {nh n : Nat} {cur vc : Nat → Vc} {own : Nat → Nat} (f : Fit nh cur n own vc) {h o : Nat} (hh : h < nh) (ho : o < nh) : cur h o ≤ n := Nat.le_trans ((f.cons h hh).1.2 o ho) (cntO_le own o n)
end Go.Proofs.Ybulkcubo
