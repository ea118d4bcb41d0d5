/-
  The hosts of the walk of LawS4785AMatchesBrute: the row of hosts, each host's slots.
-/
import Derived.Test.YbulkcuboVcState
import Derived.Test.YbulkcuboVcIter
namespace Go.Proofs.Ybulkcubo
open Go.RowKit

/-- Which host has slot k of host h. -/
def slotOf (h k : Nat) : Nat := if k = 0 then h else if k ≤ h then k - 1 else k
/-- How many slots are laid when the hosts below o are gone through. -/
def slotsAt (h o : Nat) : Nat := if o ≤ h then o + 1 else o
def slotRow (h m : Nat) : List Value := (List.range m).map fun k => .int .i32 (slotOf h k : Int)

theorem slotRow_one (h : Nat) : slotRow h 1 = [.int .i32 (h : Int)] := rfl
theorem slotRow_next {h o : Nat} (ne : o ≠ h) : slotRow h (slotsAt h o) ++ [.int .i32 (o : Int)] = slotRow h (slotsAt h (o + 1)) ∧ slotsAt h (o + 1) = slotsAt h o + 1 := by
  have e : slotsAt h (o + 1) = slotsAt h o + 1 := by
    unfold slotsAt
    split <;> split <;> omega
  refine ⟨?_, e⟩
  have e2 : slotOf h (slotsAt h o) = o := by
    unfold slotOf slotsAt
    split <;> split <;> (try split) <;> omega
  rw [e]
  unfold slotRow
  rw [List.range_succ, List.map_append]
  simp [e2]
theorem slotsAt_same (h : Nat) : slotsAt h (h + 1) = slotsAt h h := by unfold slotsAt; simp
theorem slotsAt_end {h nh : Nat} (hh : h < nh) : slotsAt h nh = nh := by unfold slotsAt; rw [if_neg (by omega)]
theorem slotOf_lt {h k nh : Nat} (hh : h < nh) (hk : k < nh) : slotOf h k < nh := by
  unfold slotOf
  split
  · exact hh
  · split <;> omega

/-- The host's slots gone through: the sum over the other hosts. -/
theorem sum_slots (f : Nat → Nat) (h : Nat) : ∀ n, h < n → sumTo (fun k => f (slotOf h k)) n = sumH (fun o => if o = h then 0 else f o) n := by
  have low : ∀ m, m ≤ h → sumTo (fun k => f (slotOf h k)) (m + 1) = sumH f m := by
    intro m
    induction m with
    | zero => intro _; rfl
    | succ m ih =>
      intro hm
      have h1 := ih (by omega)
      have e : slotOf h (m + 1) = m := by unfold slotOf; rw [if_neg (by omega), if_pos hm]; omega
      simp only [sumTo] at h1 ⊢
      rw [h1]
      simp only [sumH, e]
      simp
  have same : ∀ m, m ≤ h → sumH (fun o => if o = h then 0 else f o) m = sumH f m := fun m hm => sumH_congr m fun o ho => by rw [if_neg (by omega)]
  intro n
  induction n with
  | zero => intro hh; omega
  | succ n ih =>
    intro hh
    by_cases e : h = n
    · subst e
      rw [low h (Nat.le_refl _)]
      simp only [sumH]
      rw [same h (Nat.le_refl _)]
      simp
    · have h1 := ih (by omega)
      have e2 : slotOf h n = n := by unfold slotOf; rw [if_neg (by omega), if_neg (by omega)]
      simp only [sumTo, sumH, h1, e2]
      rw [if_neg (by omega : ¬ n = 0), if_neg (by omega : ¬ n = h)]

/-- A host in memory. -/
structure HostAt (W : World) (nh h x s sc : Nat) (vh : Value) : Prop where
  box : ∃ cs, W.heap[x]? = some (.cells cs 35 (0, 0)) ∧ cs[2]? = some (.int .i32 (h : Int)) ∧ cs[3]? = some vh ∧ cs[4]? = some (.slice (some ⟨s, 0, none⟩) nh sc)
  slots : ∃ cur, W.heap[s]? = some (.cells cur 21 (0, 0)) ∧ ∀ k, k < nh → cur[k]? = some (.int .i32 (slotOf h k : Int))

theorem HostAt.same {W W' : World} {nh h x s sc : Nat} {vh : Value} (H : HostAt W nh h x s sc vh) (hx : W'.heap[x]? = W.heap[x]?) (hs : W'.heap[s]? = W.heap[s]?) : HostAt W' nh h x s sc vh := by
  obtain ⟨⟨cs, h1, h2⟩, cur, h3, h4⟩ := H
  exact ⟨⟨cs, hx.trans h1, h2⟩, cur, hs.trans h3, h4⟩
theorem HostAt.lt {W : World} {nh h x s sc : Nat} {vh : Value} (H : HostAt W nh h x s sc vh) : x < W.heap.size ∧ s < W.heap.size := by
  obtain ⟨⟨cs, h1, h2⟩, cur, h3, h4⟩ := H
  exact ⟨(Array.getElem?_eq_some_iff.1 h1).1, (Array.getElem?_eq_some_iff.1 h3).1⟩

def hostRow (nh r : Nat) (X : Nat → Nat) : Array Value := ((List.range nh).map fun h => if h < r then Value.pointer (some ⟨X h, 0, none⟩) else .pointer none).toArray
theorem hostRow_zero (nh : Nat) (X : Nat → Nat) : madeCells #[.pointer none] nh = hostRow nh 0 X := by
  apply Array.ext_getElem?
  intro i
  by_cases h : i < nh
  · simp [madeCells, hostRow, h, Nat.mod_one]
  · simp [madeCells, hostRow, h]
theorem hostRow_set (nh : Nat) (X : Nat → Nat) {r : Nat} (hr : r < nh) (x : Nat) : (hostRow nh r X).setIfInBounds r (.pointer (some ⟨x, 0, none⟩)) = hostRow nh (r + 1) (snoc X r x) := by
  apply Array.ext_getElem?
  intro i
  rw [Array.getElem?_setIfInBounds]
  by_cases h : i < nh
  · by_cases e : r = i
    · subst e
      simp [hostRow, hr, snoc_at]
    · by_cases h2 : i < r
      · have h3 : i < r + 1 := by omega
        simp [hostRow, h, e, h2, h3, snoc_lt X x h2]
      · have h3 : ¬ i < r + 1 := by omega
        simp [hostRow, h, e, h2, h3]
  · simp [hostRow, h]
    omega

structure St3 (wz : World) (nh : Nat) (W : World) (r : Nat) (X S SC : Nat → Nat) : Prop where
  bel : Below wz.heap.size wz W
  big : wz.heap.size < W.heap.size
  row : W.heap[wz.heap.size]? = some (.cells (hostRow nh r X) 32 (0, 0))
  hosts : ∀ h, h < r → wz.heap.size < X h ∧ wz.heap.size < S h ∧ HostAt W nh h (X h) (S h) (SC h) (.slice none 0 0)

theorem St3.start (wz : World) (nh : Nat) : St3 wz nh (wz.alloc (.cells (madeCells #[.pointer none] nh) 32)) 0 (fun _ => 0) (fun _ => 0) (fun _ => 0) := by
  refine ⟨(Below.refl _ _).alloc (Nat.le_refl _) _, by simp, ?_, fun h hh => absurd hh (by omega)⟩
  rw [World.alloc_heap_new, hostRow_zero nh (fun _ => 0)]

theorem St3.cell {wz W : World} {nh r : Nat} {X S SC : Nat → Nat} (s : St3 wz nh W r X S SC) {h : Nat} (hh : h < nh) : W.cell? ⟨wz.heap.size, h, none⟩ = some (if h < r then .pointer (some ⟨X h, 0, none⟩) else .pointer none) := by
  rw [cell_of_row W _ _ _ _ _ s.row]
  simp [hostRow, hh]

theorem St3.next {wz W V : World} {nh r : Nat} {X S SC : Nat → Nat} (s : St3 wz nh W r X S SC) (hr : r < nh) (hb : Below W.heap.size W V) {q c : Nat} (hq : V.ownsRow W.heap.size 21 1 (.slice (some ⟨q, 0, none⟩) nh c) nh (slotRow r nh)) {cs : Array Value}
    (h2 : cs[2]? = some (.int .i32 (r : Int))) (h3 : cs[3]? = some (.slice none 0 0)) (h4 : cs[4]? = some (.slice (some ⟨q, 0, none⟩) nh c)) :
    St3 wz nh ((V.setCell ⟨wz.heap.size, r, none⟩ (.pointer (some ⟨V.heap.size, 0, none⟩))).alloc (.cells cs 35)) (r + 1) (snoc X r V.heap.size) (snoc S r q) (snoc SC r c) := by
  have hbig := s.big
  have hV := hb.size
  have hs2 : (V.setCell ⟨wz.heap.size, r, none⟩ (.pointer (some ⟨V.heap.size, 0, none⟩))).heap.size = V.heap.size := by simp
  have hold : ∀ k, k < V.heap.size → k ≠ wz.heap.size → ((V.setCell ⟨wz.heap.size, r, none⟩ (.pointer (some ⟨V.heap.size, 0, none⟩))).alloc (.cells cs 35)).heap[k]? = V.heap[k]? := fun k hk ne => by
    rw [heap_alloc _ _ (by rw [hs2]; exact hk), heap_set_ne _ _ _ ne]
  refine ⟨((s.bel.trans (hb.mono (by omega))).setCell (p := ⟨wz.heap.size, r, none⟩) (Nat.le_refl _) _).alloc (by rw [hs2]; omega) _, by simp; omega, ?_, fun h hh => ?_⟩
  · rw [heap_alloc _ _ (by rw [hs2]; omega), heap_set ((hb.block _ hbig).trans s.row), hostRow_set nh X hr]
  · by_cases e : h = r
    · subst e
      rw [snoc_at, snoc_at, snoc_at]
      rcases hq.2 with ⟨hn, _⟩ | ⟨g', c', cur, e1, h5, h6, h7, h8, h9, h10⟩
      · cases hn
      · simp only [Value.slice.injEq, Option.some.injEq, Addr.mk.injEq, true_and, and_true] at e1
        obtain ⟨rfl, rfl⟩ := e1
        have hql : q < V.heap.size := (Array.getElem?_eq_some_iff.1 h6).1
        refine ⟨by omega, by omega, ⟨cs, ?_, h2, h3, h4⟩, cur, (hold q hql (by omega)).trans h6, fun k hk => ?_⟩
        · have := World.alloc_heap_new (V.setCell ⟨wz.heap.size, h, none⟩ (.pointer (some ⟨V.heap.size, 0, none⟩))) (.cells cs 35)
          rwa [hs2] at this
        · have h11 : (cur.toList.take (nh * 1))[k]? = some (.int .i32 (slotOf h k : Int)) := by rw [h10]; simp [slotRow, hk]
          rw [List.getElem?_take] at h11
          simpa [hk] using h11
    · obtain ⟨x1, x2, x3⟩ := s.hosts h (by omega)
      rw [snoc_lt X _ (by omega), snoc_lt S _ (by omega), snoc_lt SC _ (by omega)]
      have := x3.lt
      exact ⟨x1, x2, x3.same ((hold _ (by omega) (by omega)).trans (hb.block _ this.1)) ((hold _ (by omega) (by omega)).trans (hb.block _ this.2))⟩

/-- A row of one, fresh. -/
theorem own_one (W : World) (e : TypeId) (x : Value) : (W.alloc (.cells #[x] e)).ownsRow W.heap.size e 1 (.slice (some ⟨W.heap.size, 0, none⟩) 1 1) 1 [x] :=
  ⟨rfl, .inr ⟨W.heap.size, 1, #[x], rfl, Nat.le_refl _, World.alloc_heap_new _ _, Nat.le_refl _, by decide, rfl, rfl⟩⟩

/-- A row that only it has grown: what lay below its base lies as it lay. -/
theorem below_app {W V V' : World} {base n : Nat} {e : TypeId} {v : Value} {xs : List Value} (hb : Below base W V) (ho : V.ownsRow base e 1 v n xs) (hbase : base ≤ V.heap.size) (hg : V.grownBy V' v.ownBlock) : Below base W V' :=
  hb.grown hg hbase (fun _ h => (own_block ho h).1)
end Go.Proofs.Ybulkcubo
