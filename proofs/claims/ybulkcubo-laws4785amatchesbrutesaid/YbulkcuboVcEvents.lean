/-
  The events of the walk of LawS4785AMatchesBrute.
-/
import Derived.Test.YbulkcuboVcHosts
import Derived.Test.YbulkcuboVcPairs
namespace Go.Proofs.Ybulkcubo
open Go.RowKit

/-- One event's own part in memory: its four cells, its counters, its slots. -/
def EvPart (W : World) (K nh : Nat) (vh : Nat → Value) (own : Nat → Nat) (vc : Nat → Vc) (X : Nat → Nat) (i : Nat) (ev : Array Value) : Prop :=
  ∃ (line : Int) (cn cc m : Nat) (sv : Value) (cl : Nat → Nat), ev = #[.int .i64 line, .pointer (some ⟨X (own i), 0, none⟩), .slice (some ⟨cn, 0, none⟩) m cc, sv] ∧ K < cn ∧
    (∃ cur, W.heap[cn]? = some (.cells cur 29 (0, 0)) ∧ ∀ k, k < m → cur[k]? = some (.int .u64 (cl k : Int))) ∧ 1 ≤ m ∧ m ≤ nh ∧ (∀ k, k < m → cl k ≤ 1000) ∧ sumTo cl m = others nh own vc i ∧
    ((sv = .slice none 0 0 ∧ m = nh) ∨ ∃ b bc, sv = .slice (some ⟨b, 0, none⟩) m bc ∧ K < b ∧ (∃ cur, W.heap[b]? = some (.cells cur 21 (0, 0)) ∧ ∀ k, k < m → ∃ z : Nat, z < nh ∧ cur[k]? = some (.int .i32 (z : Int))) ∧ ∀ h, h < nh → (vh h).ownBlock ≠ some b)

/-- What is there when the first r events are laid, and the hosts have those of the first rc. -/
structure St4 (wz : World) (K nh n : Nat) (own : Nat → Nat) (vc : Nat → Vc) (X S SC : Nat → Nat) (W : World) (r rc : Nat) (vh : Nat → Value) (evs : Nat → Array Value) : Prop where
  bel : Below wz.heap.size wz W
  bigK : wz.heap.size < K
  big : K < W.heap.size
  row : W.heap[wz.heap.size]? = some (.cells (hostRow nh nh X) 32 (0, 0))
  hosts : ∀ h, h < nh → wz.heap.size < X h ∧ X h < K ∧ wz.heap.size < S h ∧ S h < K ∧ HostAt W nh h (X h) (S h) (SC h) (vh h)
  rows : ∀ h, h < nh → ∃ xs, W.ownsRow (K + 1) 21 1 (vh h) (cntO own h rc) xs
  dis : ∀ h h', h < nh → h' < nh → ∀ k, (vh h).ownBlock = some k → (vh h').ownBlock = some k → h = h'
  evr : ∃ ce, W.heap[K]? = some (.cells ce 40 (0, 0)) ∧ ce.size = n * 4 ∧ ∀ i, i < r → ∀ j, j < 4 → ce[i * 4 + j]? = (evs i)[j]?
  parts : ∀ i, i < r → EvPart W K nh vh own vc X i (evs i)

theorem EvPart.same {W W' : World} {K nh : Nat} {vh vh' : Nat → Value} {own : Nat → Nat} {vc : Nat → Vc} {X : Nat → Nat} {i : Nat} {ev : Array Value} (h : EvPart W K nh vh own vc X i ev)
    (h29 : ∀ k c, K < k → W.heap[k]? = some (.cells c 29 (0, 0)) → W'.heap[k]? = W.heap[k]?)
    (h21 : ∀ k c, K < k → W.heap[k]? = some (.cells c 21 (0, 0)) → (∀ h, h < nh → (vh h).ownBlock ≠ some k) → W'.heap[k]? = W.heap[k]? ∧ ∀ h, h < nh → (vh' h).ownBlock ≠ some k) : EvPart W' K nh vh' own vc X i ev := by
  obtain ⟨line, cn, cc, m, sv, cl, e, l1, ⟨cur, c1, c2⟩, m1, m2, m3, m4, m5⟩ := h
  refine ⟨line, cn, cc, m, sv, cl, e, l1, ⟨cur, (h29 cn cur l1 c1).trans c1, c2⟩, m1, m2, m3, m4, ?_⟩
  rcases m5 with m5 | ⟨b, bc, e2, l2, ⟨cur2, d1, d2⟩, d3⟩
  · exact .inl m5
  · obtain ⟨x1, x2⟩ := h21 b cur2 l2 d1 d3
    exact .inr ⟨b, bc, e2, l2, ⟨cur2, x1.trans d1, d2⟩, x2⟩

/-- What is laid beyond does not touch it. -/
theorem St4.below {wz W V : World} {K nh n : Nat} {own : Nat → Nat} {vc : Nat → Vc} {X S SC : Nat → Nat} {r rc : Nat} {vh : Nat → Value} {evs : Nat → Array Value} (s : St4 wz K nh n own vc X S SC W r rc vh evs) (hb : Below W.heap.size W V) :
    St4 wz K nh n own vc X S SC V r rc vh evs := by
  have h1 := s.big
  have h2 := s.bigK
  have hg : W.grownBy V none := ⟨hb.os, hb.tape, hb.output, hb.size, fun k hk _ => hb.block k hk⟩
  refine ⟨s.bel.trans (hb.mono (by omega)), h2, Nat.lt_of_lt_of_le h1 hb.size, (hb.block _ (by omega)).trans s.row, fun h hh => ?_, fun h hh => ?_, s.dis, ?_, fun i hi => ?_⟩
  · obtain ⟨x1, x2, x3, x4, x5⟩ := s.hosts h hh
    exact ⟨x1, x2, x3, x4, x5.same (hb.block _ (by omega)) (hb.block _ (by omega))⟩
  · obtain ⟨xs, hx⟩ := s.rows h hh
    exact ⟨xs, hx.kept hg (by cases (vh h).ownBlock <;> simp)⟩
  · obtain ⟨ce, e1, e2⟩ := s.evr
    exact ⟨ce, (hb.block _ h1).trans e1, e2⟩
  · exact (s.parts i hi).same (fun k c _ hk => hb.block _ (Array.getElem?_eq_some_iff.1 hk).1) (fun k c _ hk hd => ⟨hb.block _ (Array.getElem?_eq_some_iff.1 hk).1, hd⟩)

/-- An event is put into its host's row. -/
theorem St4.push {wz W V : World} {K nh n : Nat} {own : Nat → Nat} {vc : Nat → Vc} {X S SC : Nat → Nat} {r : Nat} {vh : Nat → Value} {evs : Nat → Array Value} (s : St4 wz K nh n own vc X S SC W r r vh evs) (ho : own r < nh)
    {g' c' : Nat} {xs : List Value} (h1 : V.ownsRow (K + 1) 21 1 (.slice (some ⟨g', 0, none⟩) (cntO own (own r) r + 1) c') (cntO own (own r) r + 1) xs) (hg : W.grownBy V (vh (own r)).ownBlock)
    (hn : (vh (own r)).ownBlock = some g' ∨ g' = W.heap.size + 1) :
    St4 wz K nh n own vc X S SC (V.setCell ⟨X (own r), 3, none⟩ (.slice (some ⟨g', 0, none⟩) (cntO own (own r) r + 1) c')) r (r + 1) (fun h => if h = own r then .slice (some ⟨g', 0, none⟩) (cntO own (own r) r + 1) c' else vh h) evs := by
  have hK := s.big
  have hK2 := s.bigK
  obtain ⟨y1, y2, y3, y4, y5⟩ := s.hosts _ ho
  obtain ⟨ys, hys⟩ := s.rows _ ho
  have hsz := hg.size
  have kept : ∀ k, k < W.heap.size → k ≠ X (own r) → (k < K + 1 ∨ ∃ cs t fr, W.heap[k]? = some (.cells cs t fr) ∧ t ≠ 21) → (V.setCell ⟨X (own r), 3, none⟩ (.slice (some ⟨g', 0, none⟩) (cntO own (own r) r + 1) c')).heap[k]? = W.heap[k]? := fun k hk ne hd =>
    (heap_set_ne _ _ _ ne).trans (grown_keeps hys hg hk hd)
  have hXr : V.heap[X (own r)]? = W.heap[X (own r)]? := grown_keeps hys hg (by omega) (.inl (by omega))
  have hobk : ∀ h, h < nh → ∀ k, (vh h).ownBlock = some k → K + 1 ≤ k ∧ k < W.heap.size := fun h hh k hk => by
    obtain ⟨zs, hz⟩ := s.rows h hh
    obtain ⟨q1, cu, q2⟩ := own_block hz hk
    exact ⟨q1, (Array.getElem?_eq_some_iff.1 q2).1⟩
  have hnew : ∀ h, h < nh → h ≠ own r → (vh h).ownBlock ≠ some g' := fun h hh ne e => by
    rcases hn with hn | hn
    · exact ne (s.dis h _ hh ho g' e hn)
    · have := (hobk h hh _ e).2
      omega
  refine ⟨?_, hK2, by simp; omega, kept _ (by omega) (by omega) (.inl (by omega)) |>.trans s.row, fun h hh => ?_, fun h hh => ?_, fun h h' hh hh' k e1 e2 => ?_, ?_, fun i hi => ?_⟩
  · refine Below.setCell (p := ⟨X (own r), 3, none⟩) (s.bel.grown hg (by omega) (fun k e => ?_)) (by show wz.heap.size ≤ X (own r); omega) _
    have := (hobk _ ho k e).1
    omega
  · obtain ⟨x1, x2, x3, x4, x5⟩ := s.hosts h hh
    refine ⟨x1, x2, x3, x4, ?_⟩
    by_cases e : h = own r
    · subst e
      simp only [if_true]
      obtain ⟨⟨cs, b1, b2, b3, b4⟩, cu, c1, c2⟩ := x5
      have hne : S (own r) ≠ X (own r) := fun e => by rw [e, b1] at c1; cases c1
      refine ⟨⟨cs.setIfInBounds 3 (.slice (some ⟨g', 0, none⟩) (cntO own (own r) r + 1) c'), heap_set (hXr.trans b1) _ _, ?_, ?_, ?_⟩, cu, (kept _ (by omega) hne (.inl (by omega))).trans c1, c2⟩
      · rw [Array.getElem?_setIfInBounds, if_neg (by omega)]; exact b2
      · have h3 := (Array.getElem?_eq_some_iff.1 b3).1
        rw [Array.getElem?_setIfInBounds, if_pos rfl, if_pos h3]
      · rw [Array.getElem?_setIfInBounds, if_neg (by omega)]; exact b4
    · simp only [if_neg e]
      obtain ⟨⟨cs, b1, b2, b3⟩, cu, c1, c2⟩ := x5
      obtain ⟨⟨cs', b1', b2', b3'⟩, _⟩ := y5
      have hne : X h ≠ X (own r) := fun e2 => by
        rw [e2, b1'] at b1
        cases b1
        rw [b2'] at b2
        simp only [Option.some.injEq, Value.int.injEq, true_and] at b2
        omega
      have hne2 : S h ≠ X (own r) := fun e2 => by rw [e2, b1'] at c1; cases c1
      exact ⟨⟨cs, (kept _ (by omega) hne (.inl (by omega))).trans b1, b2, b3⟩, cu, (kept _ (by omega) hne2 (.inl (by omega))).trans c1, c2⟩
  · have hst := grownBy_set1 V (X (own r)) 3 (.slice (some ⟨g', 0, none⟩) (cntO own (own r) r + 1) c')
    by_cases e : h = own r
    · subst e
      simp only [if_true, cntO]
      refine ⟨xs, h1.kept hst (.inr fun e2 => ?_)⟩
      simp only [Value.ownBlock, Option.some.injEq] at e2
      rcases hn with hn | hn
      · have := (hobk _ ho _ hn).1
        omega
      · omega
    · obtain ⟨zs, hz⟩ := s.rows h hh
      have e3 : ¬ own r = h := fun e2 => e e2.symm
      simp only [if_neg e, cntO, if_neg e3, Nat.add_zero]
      refine ⟨zs, (hz.kept hg ?_).kept hst ?_⟩
      · rcases hb : (vh h).ownBlock with _ | k
        · exact .inl rfl
        · exact .inr fun e2 => e (s.dis h _ hh ho k hb e2.symm)
      · rcases hb : (vh h).ownBlock with _ | k
        · exact .inl rfl
        · refine .inr fun e2 => ?_
          have := (hobk h hh k hb).1
          cases e2
          omega
  · by_cases ea : h = own r <;> by_cases eb : h' = own r
    · rw [ea, eb]
    · simp only [if_pos ea, Value.ownBlock, Option.some.injEq] at e1
      simp only [if_neg eb] at e2
      rw [← e1] at e2
      exact absurd e2 (hnew h' hh' eb)
    · simp only [if_pos eb, Value.ownBlock, Option.some.injEq] at e2
      simp only [if_neg ea] at e1
      rw [← e2] at e1
      exact absurd e1 (hnew h hh ea)
    · simp only [if_neg ea] at e1
      simp only [if_neg eb] at e2
      exact s.dis h h' hh hh' k e1 e2
  · obtain ⟨ce, e1, e2⟩ := s.evr
    exact ⟨ce, (kept _ hK (by omega) (.inl (by omega))).trans e1, e2⟩
  · refine (s.parts i hi).same (fun k c hk hc => kept _ (Array.getElem?_eq_some_iff.1 hc).1 (by omega) (.inr ⟨_, _, _, hc, by decide⟩)) (fun k c hk hc hd => ⟨?_, fun h hh e => ?_⟩)
    · rw [heap_set_ne _ _ _ (by omega)]
      exact hg.block k (Array.getElem?_eq_some_iff.1 hc).1 (fun e => hd _ ho e.symm)
    · by_cases ea : h = own r
      · simp only [if_pos ea, Value.ownBlock, Option.some.injEq] at e
        rcases hn with hn | hn
        · exact hd _ ho (by rw [hn, e])
        · have := (Array.getElem?_eq_some_iff.1 hc).1
          omega
      · simp only [if_neg ea] at e
        exact hd h hh e

theorem St4.start {wz wq : World} {nh n : Nat} {own : Nat → Nat} {vc : Nat → Vc} {X S SC : Nat → Nat} (s : St3 wz nh wq nh X S SC) {ce : Array Value} (hce : ce.size = n * 4) (evs : Nat → Array Value) :
    St4 wz wq.heap.size nh n own vc X S SC (wq.alloc (.cells ce 40)) 0 0 (fun _ => .slice none 0 0) evs := by
  refine ⟨s.bel.alloc (Nat.le_of_lt s.big) _, s.big, by simp, (heap_alloc _ _ s.big).trans s.row, fun h hh => ?_, fun h hh => ⟨[], World.ownsRow_nil _ _ _ _⟩, fun h h' _ _ k e _ => (by cases e), ⟨ce, World.alloc_heap_new _ _, hce, fun i hi => absurd hi (by omega)⟩, fun i hi => absurd hi (by omega)⟩
  obtain ⟨x1, x2, x3⟩ := s.hosts h hh
  have := x3.lt
  exact ⟨x1, this.1, x2, this.2, x3.same (heap_alloc _ _ this.1) (heap_alloc _ _ this.2)⟩

theorem info40 : (Yba.prog.info? 40).map (fun i => (i.zero.isSome, i.size, i.bytes)) = some (true, 4, 64) := by kernel_rfl

/-- The row of events is made. -/
theorem make_events (n : Nat) (hn : n ≤ 400) : ∃ ce : Array Value, ce.size = n * 4 ∧ ∀ w : World, (Instr.makeSlice 36 (.int .i64 (n : Int)) (.int .i64 (n : Int))).run Yba.prog w = .ok (.slice (some ⟨w.heap.size, 0, none⟩) n n) (w.alloc (.cells ce 40)) := by
  obtain ⟨i, hi, hzz⟩ := Option.map_eq_some_iff.1 info40
  simp only [Prod.mk.injEq] at hzz
  obtain ⟨hz, hs, hb⟩ := hzz
  obtain ⟨z, hz⟩ := Option.isSome_iff_exists.1 hz
  refine ⟨madeCells z.cells (n * 4), size_madeCells _ _, fun w => ?_⟩
  have hr := run_make (P := Yba.prog) w 36 40 i z Yba.underlying36 hi hz .i64 .i64 n n (by omega) (Int.le_refl _) (by rw [hb]; omega) (by omega)
  simp only [Int.toNat_natCast, hs] at hr
  exact hr

/-- The event is laid in its place. -/
theorem St4.store {wz W : World} {K nh n : Nat} {own : Nat → Nat} {vc : Nat → Vc} {X S SC : Nat → Nat} {r : Nat} {vh : Nat → Value} {evs : Nat → Array Value} (s : St4 wz K nh n own vc X S SC W r (r + 1) vh evs) (hr : r < n) {e0 e1 e2 e3 : Value}
    (hp : EvPart W K nh vh own vc X r #[e0, e1, e2, e3]) :
    St4 wz K nh n own vc X S SC ((((W.setCell ⟨K, r * 4, none⟩ e0).setCell ⟨K, r * 4 + 1, none⟩ e1).setCell ⟨K, r * 4 + 2, none⟩ e2).setCell ⟨K, r * 4 + 3, none⟩ e3) (r + 1) (r + 1) vh (snoc evs r #[e0, e1, e2, e3]) := by
  have hK := s.big
  have hK2 := s.bigK
  obtain ⟨ce, c1, c2, c3⟩ := s.evr
  have hg : W.grownBy ((((W.setCell ⟨K, r * 4, none⟩ e0).setCell ⟨K, r * 4 + 1, none⟩ e1).setCell ⟨K, r * 4 + 2, none⟩ e2).setCell ⟨K, r * 4 + 3, none⟩ e3) (some K) :=
    (((grownBy_set1 W K (r * 4) e0).trans (grownBy_set1 _ K (r * 4 + 1) e1)).trans (grownBy_set1 _ K (r * 4 + 2) e2)).trans (grownBy_set1 _ K (r * 4 + 3) e3)
  have kept : ∀ k, k < W.heap.size → k ≠ K → ((((W.setCell ⟨K, r * 4, none⟩ e0).setCell ⟨K, r * 4 + 1, none⟩ e1).setCell ⟨K, r * 4 + 2, none⟩ e2).setCell ⟨K, r * 4 + 3, none⟩ e3).heap[k]? = W.heap[k]? := fun k hk ne =>
    hg.block k hk (fun e => by cases e; exact ne rfl)
  refine ⟨s.bel.grown hg (by omega) (fun k e => by cases e; omega), hK2, by simp; omega, (kept _ (by omega) (by omega)).trans s.row, fun h hh => ?_, fun h hh => ?_, s.dis, ?_, fun i hi => ?_⟩
  · obtain ⟨x1, x2, x3, x4, x5⟩ := s.hosts h hh
    exact ⟨x1, x2, x3, x4, x5.same (kept _ (by omega) (by omega)) (kept _ (by omega) (by omega))⟩
  · obtain ⟨xs, hx⟩ := s.rows h hh
    refine ⟨xs, hx.kept hg ?_⟩
    rcases hb : (vh h).ownBlock with _ | k
    · exact .inl rfl
    · refine .inr fun e => ?_
      have := (own_block hx hb).1
      cases e
      omega
  · refine ⟨_, heap_set (heap_set (heap_set (heap_set c1 _ _) _ _) _ _) _ _, by simp [c2], fun i hi j hj => ?_⟩
    simp only [Array.getElem?_setIfInBounds, Array.size_setIfInBounds]
    have hb : ∀ j, j < 4 → r * 4 + j < ce.size := fun j hj => by rw [c2]; omega
    have hb0 : r * 4 < ce.size := hb 0 (by omega)
    by_cases e : i = r
    · subst e
      rw [snoc_at]
      have h1 := hb 1 (by omega)
      have h2 := hb 2 (by omega)
      have h3 := hb 3 (by omega)
      match j, hj with
      | 0, _ => simp [hb0]
      | 1, _ => simp [h1]
      | 2, _ => simp [h2]
      | 3, _ => simp [h3]
    · rw [snoc_lt evs _ (by omega)]
      rw [if_neg (by omega), if_neg (by omega), if_neg (by omega), if_neg (by omega)]
      exact c3 i (by omega) j hj
  · have keep : ∀ ev i, EvPart W K nh vh own vc X i ev → EvPart _ K nh vh own vc X i ev := fun ev i h => h.same (W' := ((((W.setCell ⟨K, r * 4, none⟩ e0).setCell ⟨K, r * 4 + 1, none⟩ e1).setCell ⟨K, r * 4 + 2, none⟩ e2).setCell ⟨K, r * 4 + 3, none⟩ e3))
      (fun k c hk hc => kept _ (Array.getElem?_eq_some_iff.1 hc).1 (by omega)) (fun k c hk hc hd => ⟨kept _ (Array.getElem?_eq_some_iff.1 hc).1 (by omega), hd⟩)
    by_cases e : i = r
    · subst e
      rw [snoc_at]
      exact keep _ _ hp
    · rw [snoc_lt evs _ (by omega)]
      exact keep _ _ (s.parts i (by omega))

/-- The log, when all is laid. -/
theorem St4.log {wz W : World} {K nh n : Nat} {own : Nat → Nat} {vc : Nat → Vc} {X S SC : Nat → Nat} {vh : Nat → Value} {evs : Nat → Array Value} (s : St4 wz K nh n own vc X S SC W n n vh evs) (hown : ∀ i, i < n → own i < nh) (hnh : nh ≤ 1000) {cs : Array Value} {ec hc : Nat}
    (h0 : cs[0]? = some (.slice (some ⟨K, 0, none⟩) n ec)) (h2 : cs[2]? = some (.slice (some ⟨wz.heap.size, 0, none⟩) nh hc)) :
    LogMem (W.alloc (.cells cs 55)) W.heap.size n nh (fun h => cntO own h n) (others nh own vc) := by
  have s' := s.below (V := W.alloc (.cells cs 55)) ((Below.refl _ _).alloc (Nat.le_refl _) _)
  obtain ⟨ce, c1, c2, c3⟩ := s'.evr
  refine ⟨K, ec, wz.heap.size, hc, ?_, ?_, fun h hh => ?_, fun i hi => ?_⟩
  · rw [cell_of_row _ _ _ _ _ _ (World.alloc_heap_new _ _)]; exact h0
  · rw [cell_of_row _ _ _ _ _ _ (World.alloc_heap_new _ _)]; exact h2
  · obtain ⟨x1, x2, x3, x4, ⟨bs, b1, b2, b3, b4⟩, _⟩ := s'.hosts h hh
    obtain ⟨xs, hx⟩ := s'.rows h hh
    obtain ⟨a, c, e⟩ := own_form hx
    refine ⟨X h, a, c, ?_, ?_⟩
    · rw [cell_of_row _ _ _ _ _ _ s'.row]
      simp [hostRow, hh]
    · rw [cell_of_row _ _ _ _ _ _ b1, b3, e]
  · obtain ⟨line, cn, cc, m, sv, cl, e, l1, ⟨cur, d1, d2⟩, m1, m2, m3, m4, m5⟩ := s'.parts i hi
    obtain ⟨x1, x2, x3, x4, ⟨bs, b1, b2, b3, b4⟩, cu, u1, u2⟩ := s'.hosts (own i) (hown i hi)
    have hlt := s'.big
    refine ⟨evs i, m, cl, m1, by omega, ⟨⟨line, X (own i), cn, cc, sv, e, by omega, (Array.getElem?_eq_some_iff.1 d1).1, ⟨S (own i), SC (own i), ?_, by omega, fun k hk => ⟨(slotOf (own i) k : Int), ?_⟩⟩, fun k hk => ?_, ?_⟩, m3⟩, m4, fun j hj => ?_⟩
    · rw [cell_of_row _ _ _ _ _ _ b1, b4]
    · rw [cell_of_row _ _ _ _ _ _ u1]; exact u2 k hk
    · rw [cell_of_row _ _ _ _ _ _ d1]; exact d2 k hk
    · rcases m5 with ⟨m5, m6⟩ | ⟨b, bc, f1, f2, ⟨cur2, f3, f4⟩, _⟩
      · exact .inl ⟨m5, by omega⟩
      · refine .inr ⟨b, bc, f1, (Array.getElem?_eq_some_iff.1 f3).1, fun k hk => ?_⟩
        obtain ⟨z, z1, z2⟩ := f4 k hk
        exact ⟨z, z1, by rw [cell_of_row _ _ _ _ _ _ f3]; exact z2⟩
    · rw [cell_of_row _ _ _ _ _ _ c1]
      exact c3 i hi j hj

theorem own_mono {W : World} {base base' n : Nat} {e : TypeId} {v : Value} {xs : List Value} (h : W.ownsRow base e 1 v n xs) (hb : base' ≤ base) : W.ownsRow base' e 1 v n xs := by
  refine ⟨h.1, ?_⟩
  rcases h.2 with h2 | ⟨g, c, cur, h3, h4, h5⟩
  · exact .inl h2
  · exact .inr ⟨g, c, cur, h3, by omega, h5⟩

/-- The cells of the place of event r. -/
theorem St4.place {wz W : World} {K nh n : Nat} {own : Nat → Nat} {vc : Nat → Vc} {X S SC : Nat → Nat} {r rc : Nat} {vh : Nat → Value} {evs : Nat → Array Value} (s : St4 wz K nh n own vc X S SC W r rc vh evs) (hr : r < n) :
    (∃ v0 v1 v2 v3, W.cell? ⟨K, r * 4, none⟩ = some v0 ∧ W.cell? ⟨K, r * 4 + 1, none⟩ = some v1 ∧ W.cell? ⟨K, r * 4 + 2, none⟩ = some v2 ∧ W.cell? ⟨K, r * 4 + 3, none⟩ = some v3) ∧ ∀ o, W.frozen? ⟨K, o, none⟩ = false := by
  obtain ⟨ce, e1, e2, _⟩ := s.evr
  refine ⟨⟨ce[r * 4]'(by omega), ce[r * 4 + 1]'(by omega), ce[r * 4 + 2]'(by omega), ce[r * 4 + 3]'(by omega), ?_, ?_, ?_, ?_⟩, frozen_row e1⟩ <;> rw [cell_of_row _ _ _ _ _ _ e1] <;> exact Array.getElem?_eq_getElem _

/-- One more counter, one more slot. -/
theorem sparse_step {V1 wr : World} {base m : Nat} {v26 v27 : Value} {xs ys : List Value} (h26 : wr.ownsRow base 29 1 v26 m xs) (h27 : wr.ownsRow base 21 1 v27 m ys) (hb : Below base V1 wr) (hsz : base ≤ wr.heap.size) (hm : m ≤ 1000) (x : Nat) (y : Nat) :
    ∃ g c Va g2 c2 Vb, (Builtin.append_ #[24, 24] 24 #[v26, .slice (some ⟨wr.heap.size, 0, none⟩) 1 1]).run Yba.prog (wr.alloc (.cells #[.int .u64 (x : Int)] 29)) = .ok (.slice (some ⟨g, 0, none⟩) (m + 1) c) Va ∧
      (Builtin.append_ #[31, 31] 31 #[v27, .slice (some ⟨Va.heap.size, 0, none⟩) 1 1]).run Yba.prog (Va.alloc (.cells #[.int .i32 (y : Int)] 21)) = .ok (.slice (some ⟨g2, 0, none⟩) (m + 1) c2) Vb ∧
      Vb.ownsRow base 29 1 (.slice (some ⟨g, 0, none⟩) (m + 1) c) (m + 1) (xs ++ [.int .u64 (x : Int)]) ∧ Vb.ownsRow base 21 1 (.slice (some ⟨g2, 0, none⟩) (m + 1) c2) (m + 1) (ys ++ [.int .i32 (y : Int)]) ∧ Below base V1 Vb ∧ base ≤ Vb.heap.size := by
  obtain ⟨g, c, Va, r1, r2, r3, r4, -⟩ := app_one Yba.underlying24 info29 rfl (by omega) wr 24 h26 (.int .u64 (x : Int)) rfl (by omega) hsz
  have ne : ∀ {A : World} {v v' : Value} {n n' : Nat} {e e' : TypeId} {zs zs' : List Value}, A.ownsRow base e 1 v n zs → A.ownsRow base e' 1 v' n' zs' → e ≠ e' → v.ownBlock = none ∨ v.ownBlock ≠ v'.ownBlock := by
    intro A v v' n n' e e' zs zs' h1 h2 hne
    rcases hb : v.ownBlock with _ | k
    · exact .inl rfl
    · refine .inr fun e2 => ?_
      obtain ⟨_, cu, h3⟩ := own_block h1 hb
      obtain ⟨_, cu', h4⟩ := own_block h2 e2.symm
      rw [h3] at h4
      cases h4
      exact hne rfl
  have k27 := h27.kept r3 (ne h27 h26 (by decide))
  obtain ⟨g2, c2, Vb, s1, s2, s3, s4, -⟩ := app_one Yba.underlying31 info21 rfl (by omega) Va 31 k27 (.int .i32 (y : Int)) rfl (by omega) (by omega)
  exact ⟨g, c, Va, g2, c2, Vb, r1, s1, r2.kept s3 (ne r2 k27 (by decide)), s2, below_app (below_app hb h26 hsz r3) k27 (by omega) s3, by omega⟩

/-- A dense event. -/
theorem part_dense {W : World} {K nh : Nat} {vh : Nat → Value} {own : Nat → Nat} {vc : Nat → Vc} {X : Nat → Nat} {r : Nat} (ho : own r < nh) (hsm : ∀ o, o < nh → vc r o ≤ 1000) {line : Int} {cn cc : Nat} (hK : K < cn) (h : At W cn nh (fun k => vc r (slotOf (own r) k))) :
    EvPart W K nh vh own vc X r #[.int .i64 line, .pointer (some ⟨X (own r), 0, none⟩), .slice (some ⟨cn, 0, none⟩) nh cc, .slice none 0 0] :=
  ⟨line, cn, cc, nh, _, fun k => vc r (slotOf (own r) k), rfl, hK, ⟨_, h, fun k hk => by simpa using rowV_at _ hk⟩, by omega, Nat.le_refl _, fun k hk => hsm _ (slotOf_lt ho hk), sum_slots (vc r) (own r) nh ho, .inl ⟨rfl, rfl⟩⟩

theorem sumTo_tail (x : Nat) : ∀ (cs : List Nat) (m : Nat), m ≤ cs.length → sumTo (fun k => (x :: cs).getD k 0) (m + 1) = (cs.take m).sum
  | cs, 0, _ => by simp [sumTo]
  | cs, m + 1, h => by
    have h1 := sumTo_tail x cs m (by omega)
    have hm : m < cs.length := by omega
    have e : cs.take (m + 1) = cs.take m ++ [cs[m]] := List.take_succ_eq_append_getElem hm
    rw [e, List.sum_append]
    simp only [sumTo] at h1 ⊢
    rw [h1]
    simp [List.getD, hm]

/-- A sparse event. -/
theorem part_sparse {W : World} {K nh base : Nat} {vh : Nat → Value} {own : Nat → Nat} {vc : Nat → Vc} {X : Nat → Nat} {r : Nat} (ho : own r < nh) {line : Int} {cn cc b bc x : Nat} {cs ks : List Nat} (hK : K < base)
    (h26 : W.ownsRow base 29 1 (.slice (some ⟨cn, 0, none⟩) (cs.length + 1) cc) (cs.length + 1) ((x :: cs).map fun c : Nat => Value.int .u64 (c : Int)))
    (h27 : W.ownsRow base 21 1 (.slice (some ⟨b, 0, none⟩) (cs.length + 1) bc) (cs.length + 1) (ks.map fun c : Nat => Value.int .i32 (c : Int)))
    (hlen : ks.length = cs.length + 1) (hm : cs.length + 1 ≤ nh) (hx : ∀ c ∈ x :: cs, c ≤ 1000) (hk : ∀ c ∈ ks, c < nh) (hsum : cs.sum = sumTo (fun k => vc r (slotOf (own r) k)) nh) (hb : ∀ h, h < nh → ∀ k, (vh h).ownBlock = some k → k < base) :
    EvPart W K nh vh own vc X r #[.int .i64 line, .pointer (some ⟨X (own r), 0, none⟩), .slice (some ⟨cn, 0, none⟩) (cs.length + 1) cc, .slice (some ⟨b, 0, none⟩) (cs.length + 1) bc] := by
  have row : ∀ {e : TypeId} {g c : Nat} {xs : List Value}, W.ownsRow base e 1 (.slice (some ⟨g, 0, none⟩) (cs.length + 1) c) (cs.length + 1) xs → base ≤ g ∧ ∃ cur, W.heap[g]? = some (.cells cur e (0, 0)) ∧ ∀ k, k < cs.length + 1 → cur[k]? = xs[k]? := by
    intro e g c xs h
    rcases h.2 with ⟨hn, _⟩ | ⟨g', c', cur, e1, h5, h6, h7, h8, h9, h10⟩
    · cases hn
    · simp only [Value.slice.injEq, Option.some.injEq, Addr.mk.injEq, true_and, and_true] at e1
      obtain ⟨rfl, rfl⟩ := e1
      refine ⟨h5, cur, h6, fun k hk => ?_⟩
      rw [← h10, List.getElem?_take, if_pos (by omega)]
      simp
  obtain ⟨r1, cur, r2, r3⟩ := row h26
  obtain ⟨s1, cur2, s2, s3⟩ := row h27
  refine ⟨line, cn, cc, cs.length + 1, _, fun k => (x :: cs).getD k 0, rfl, by omega, ⟨cur, r2, fun k hk' => ?_⟩, by omega, hm, fun k hk' => ?_, ?_, .inr ⟨b, bc, rfl, by omega, ⟨cur2, s2, fun k hk' => ?_⟩, fun h hh e => ?_⟩⟩
  · rw [r3 k hk', List.getElem?_map, List.getElem?_eq_getElem (by simpa using hk')]
    simp [List.getD, List.getElem?_eq_getElem (show k < (x :: cs).length by simpa using hk')]
  · have : (x :: cs).getD k 0 ∈ x :: cs := by
      simp only [List.getD, List.getElem?_eq_getElem (show k < (x :: cs).length by simpa using hk'), Option.getD_some]
      exact List.getElem_mem _
    exact hx _ this
  · rw [sumTo_tail x cs cs.length (Nat.le_refl _), List.take_length, hsum]
    exact sum_slots (vc r) (own r) nh ho
  · have hk2 : k < ks.length := by omega
    refine ⟨ks[k], hk _ (List.getElem_mem hk2), ?_⟩
    rw [s3 k hk', List.getElem?_map, List.getElem?_eq_getElem hk2]
    rfl
  · have := hb h hh b e
    omega
end Go.Proofs.Ybulkcubo
