/-
  Memory laws for the walk of LawS4785AMatchesBrute: clocks in blocks, rows that grow.
-/
import Derived.Test.YbulkcuboVcLe
import Derived.Deep.OwnRows
import Derived.Lib.JoinLaws
import Derived.Maps.AppendAt
import Derived.Laws.CopyRow
import Derived.Laws.CopyOwn
import Derived.RangeFuncBox
namespace Go.Proofs.Ybulkcubo
open Go.RowKit

def upd (u : Vc) (o x : Nat) : Vc := fun k => if k = o then x else u k

theorem rowV_set (nh : Nat) (u : Vc) (o x : Nat) : (rowV nh u).toArray.setIfInBounds o (.int .u64 (x : Int)) = (rowV nh (upd u o x)).toArray := by
  apply Array.ext_getElem?
  intro i
  rw [Array.getElem?_setIfInBounds]
  by_cases h : i < nh
  · by_cases e : o = i
    · subst e
      simp [rowV, h, upd]
    · have e' : ¬ i = o := fun h => e h.symm
      simp [rowV, h, e, e', upd]
  · simp [rowV, h]
    omega

theorem heap_set {W : World} {g : Nat} {cs : Array Value} {t : TypeId} (h : W.heap[g]? = some (.cells cs t (0, 0))) (o : Nat) (v : Value) : (W.setCell ⟨g, o, none⟩ v).heap[g]? = some (.cells (cs.setIfInBounds o v) t (0, 0)) := by
  have hlt := (Array.getElem?_eq_some_iff.1 h).1
  show (W.heap.modify g _)[g]? = _
  rw [Array.getElem?_modify, if_pos rfl, h]
  rfl
theorem heap_set_ne (W : World) {g k : Nat} (o : Nat) (v : Value) (h : k ≠ g) : (W.setCell ⟨g, o, none⟩ v).heap[k]? = W.heap[k]? := by
  show (W.heap.modify g _)[k]? = _
  rw [Array.getElem?_modify, if_neg (fun e => h e.symm)]

theorem At.set {W : World} {g nh : Nat} {u : Vc} (h : At W g nh u) (o x : Nat) : At (W.setCell ⟨g, o, none⟩ (.int .u64 (x : Int))) g nh (upd u o x) := by
  unfold At
  rw [heap_set h, rowV_set]
theorem At.same {W W' : World} {g nh : Nat} {u : Vc} (h : At W g nh u) (e : W'.heap[g]? = W.heap[g]?) : At W' g nh u := e.trans h
theorem At.congr {W : World} {g nh : Nat} {u v : Vc} (h : At W g nh u) (e : ∀ o, o < nh → u o = v o) : At W g nh v := by
  have : rowV nh u = rowV nh v := by
    unfold rowV
    exact List.map_congr_left fun o ho => by rw [e o (List.mem_range.1 ho)]
  unfold At at *
  rw [← this]
  exact h
theorem At.lt {W : World} {g nh : Nat} {u : Vc} (h : At W g nh u) : g < W.heap.size := (Array.getElem?_eq_some_iff.1 h).1
theorem At.frozen {W : World} {g nh : Nat} {u : Vc} (h : At W g nh u) (o : Nat) : W.frozen? ⟨g, o, none⟩ = false := by
  unfold World.frozen?
  rw [show W.heap[g]? = _ from h]
  simp

theorem made_rowV (nh : Nat) : madeCells #[.int .u64 0] nh = (rowV nh (fun _ => 0)).toArray := by
  apply Array.ext_getElem?
  intro i
  by_cases h : i < nh
  · simp [madeCells, rowV, h, Nat.mod_one]
  · simp [madeCells, rowV, h]
theorem At.made (W : World) (nh : Nat) : At (W.alloc (.cells (madeCells #[.int .u64 0] nh) 29)) W.heap.size nh (fun _ => 0) := by
  unfold At
  rw [World.alloc_heap_new, made_rowV]

theorem grownBy_set1 (W : World) (b i : Nat) (v : Value) : W.grownBy (W.setCell ⟨b, i, none⟩ v) (some b) :=
  ⟨rfl, rfl, rfl, by simp, fun k _ h => heap_set_ne W i v (fun e => h (by rw [e]))⟩

theorem heap_alloc (W : World) (o : Obj) {k : Nat} (h : k < W.heap.size) : (W.alloc o).heap[k]? = W.heap[k]? := Below.heap_alloc _ _ _ h

/-- A row of one-cell elements, one more. -/
theorem app_one {t e : TypeId} {z : Value} {bytes : Nat} (ht : Yba.prog.underlying t = some (.slice e)) (hinfo : (Yba.prog.info? e).map (fun i => (i.zero, i.size, i.bytes)) = some (some z, 1, bytes)) (hzs : z.cells.size = 1) (hby : bytes ≤ 1000)
    (W : World) (ty : TypeId) {base n : Nat} {v : Value} {xs : List Value} (hown : W.ownsRow base e 1 v n xs) (x : Value) (hx : x.oneCell' = true) (hn : n ≤ 100000) (hbase : base ≤ W.heap.size) :
    ∃ g' c' w', (Builtin.append_ #[t, t] ty #[v, .slice (some ⟨W.heap.size, 0, none⟩) 1 1]).run Yba.prog (W.alloc (.cells #[x] e)) = .ok (.slice (some ⟨g', 0, none⟩) (n + 1) c') w' ∧
      w'.ownsRow base e 1 (.slice (some ⟨g', 0, none⟩) (n + 1) c') (n + 1) (xs ++ [x]) ∧ W.grownBy w' v.ownBlock ∧ W.heap.size < w'.heap.size ∧ (v.ownBlock = some g' ∨ g' = W.heap.size + 1) := by
  obtain ⟨i, hi, hzz⟩ := Option.map_eq_some_iff.1 hinfo
  simp only [Prod.mk.injEq] at hzz
  obtain ⟨hz, hs, hb⟩ := hzz
  have hnb : (n + 1) * bytes ≤ (100000 + 1) * 1000 := Nat.mul_le_mul (by omega) hby
  obtain ⟨v', w', hr, h1, h2, h3, h4⟩ := run_append_own_at (P := Yba.prog) (W.alloc (.cells #[x] e)) base t ty e i z 1 bytes ht hi hz hs hb hzs (by omega) v n xs (hown.alloc _) ⟨W.heap.size, 0, none⟩ 1 1 [x] (by simp) (cell_one_new W x e) (by simpa using hx)
    (by simp only [maxLen]; omega) (by omega) (by simp; omega)
  rcases h1.2 with ⟨_, h⟩ | ⟨g', c', cur, rfl, h5, h6, h7, h8, h9, h10⟩
  · omega
  · have hg : W.grownBy w' v.ownBlock := (World.grownBy_alloc W (.cells #[x] e) v.ownBlock).trans h2
    refine ⟨g', c', w', hr, h1, hg, ?_, ?_⟩
    · have := h2.size
      simp at this
      omega
    · rcases h4 with h4 | h4
      · exact .inl h4.symm
      · simp [Value.ownBlock] at h4
        exact .inr h4

/-- The step of an append whose run is known. -/
theorem wpList_app {P : Program} {ops : Array Oper} {rest : List Oper} {o : Oper} {a : Act} {Q : Exit → Act → World → Prop} (hgd : o.guard = none) (s x : Operand) (t : TypeId)
    (ho : o.op = .call { callee := .builtin .append, args := #[s, x], argTypes := #[t, t] }) {v vx v' : Value} {w w' : World} (hs : a.eval s = v) (hx : a.eval x = vx)
    (hr : (Builtin.append_ #[t, t] o.type #[v, vx]).run P w = .ok v' w') (h : wpList P ops Q rest (a.put o.dst v') w') : wpList P ops Q (o :: rest) a w := by
  refine wpList_plain hgd fun K hK => ?_
  unfold Oper.wp execOp
  simp only [ho, resolve, invoke, builtin, Sem.run_bind, Sem.run_pure, Result.andThen_ok, List.map_toArray, List.map_cons, List.map_nil, hs, hx, hr]
  exact hK _ _ h

theorem own_form {W : World} {base n : Nat} {e : TypeId} {v : Value} {xs : List Value} (h : W.ownsRow base e 1 v n xs) : ∃ a c, v = .slice a n c := by
  rcases h.2 with ⟨rfl, rfl⟩ | ⟨g, c, _, rfl, _⟩
  · exact ⟨_, _, rfl⟩
  · exact ⟨_, _, rfl⟩

/-- Where a row has an element, it has a block. -/
theorem own_at {W : World} {base n : Nat} {e : TypeId} {a : Option Addr} {c : Nat} {xs : List Value} (h : W.ownsRow base e 1 (.slice a n c) n xs) (hn : 0 < n) : ∃ g, a = some ⟨g, 0, none⟩ ∧ base ≤ g ∧ g < W.heap.size ∧
    (∃ cur, W.heap[g]? = some (.cells cur e (0, 0))) ∧ ∀ i x, xs[i]? = some x → W.cell? ⟨g, i, none⟩ = some x := by
  have hc := h
  rcases h.2 with ⟨_, h0⟩ | ⟨g, c', cur, e1, h5, h6, h7, h8, h9, h10⟩
  · omega
  · simp only [Value.slice.injEq, true_and] at e1
    obtain ⟨rfl, rfl⟩ := e1
    refine ⟨g, rfl, h5, (Array.getElem?_eq_some_iff.1 h6).1, ⟨cur, h6⟩, fun i x hx => ?_⟩
    have := hc.cells (g := g) rfl i x hx
    by_cases h0 : i = 0
    · subst h0
      simpa [Addr.add] using this
    · simpa [Addr.add, h0] using this

theorem own_block {W : World} {base n : Nat} {e : TypeId} {v : Value} {xs : List Value} (h : W.ownsRow base e 1 v n xs) {k : Nat} (hk : v.ownBlock = some k) : base ≤ k ∧ ∃ cur, W.heap[k]? = some (.cells cur e (0, 0)) := by
  rcases h.2 with ⟨rfl, _⟩ | ⟨g, c', cur, rfl, h5, h6, _⟩
  · cases hk
  · simp [Value.ownBlock] at hk
    subst hk
    exact ⟨h5, cur, h6⟩

/-- A block that is kept by a growing row: it lies below the row's base, or holds another type. -/
theorem grown_keeps {W W' : World} {base n : Nat} {e : TypeId} {v : Value} {xs : List Value} (h : W.ownsRow base e 1 v n xs) (hg : W.grownBy W' v.ownBlock) {k : Nat} (hk : k < W.heap.size)
    (hd : k < base ∨ ∃ cs t fr, W.heap[k]? = some (.cells cs t fr) ∧ t ≠ e) : W'.heap[k]? = W.heap[k]? := by
  refine hg.block k hk fun e1 => ?_
  obtain ⟨h1, cur, h2⟩ := own_block h e1.symm
  rcases hd with hd | ⟨cs, t, fr, h3, h4⟩
  · omega
  · rw [h2] at h3
    cases h3
    exact h4 rfl
end Go.Proofs.Ybulkcubo
