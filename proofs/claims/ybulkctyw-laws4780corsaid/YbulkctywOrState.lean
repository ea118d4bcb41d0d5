/-
  keymap.LawS4780COr: the state that the law keeps: four arrays of sixteen cells and two maps; what each step does to it.
-/
import Derived.Test.YbulkctywOrCalls
namespace Go.Proofs.Ybulkctyw
open Go.RowKit Go.Maps

/-- What a slice of integers that came in lets a walk do: an index below its length leads to a cell, and the cell holds the number. -/
theorem row_open {P : Program} {t e : TypeId} (ht : P.underlying t = some (.slice e)) (hi : (P.info? e).map (fun j => j.size) = some 1) {k : IntKind} {w : World} {a : Option Addr} {len cap : Nat} {zs : List Int}
    (h : (a = none ∧ len = 0 ∧ cap = 0 ∧ zs = []) ∨ ∃ x, a = some x ∧ len ≤ cap ∧ cap ≤ maxLen ∧ zs.length = cap ∧ (∀ i, i < zs.length → w.cell? (x.add i) = some (.int k (zs.getD i 0))) ∧ ∀ n ∈ zs, (Lit.int k n).wf = true) :
    ∃ b off : Nat, (∀ i : Nat, i < len → b < w.heap.size ∧ w.cell? ⟨b, off + i, none⟩ = some (.int k (zs.getD i 0)) ∧ (Lit.int k (zs.getD i 0)).wf = true) ∧
      ∀ (i : Nat) (W : World), i < len → Sem.run P (Instr.indexAt t (.slice a len cap) (.int .i64 (i : Int))) W = .ok (.pointer (some ⟨b, off + i, none⟩)) W := by
  rcases h with ⟨rfl, rfl, rfl, rfl⟩ | ⟨x, rfl, hl, hm, hz, hc, hw⟩
  · exact ⟨0, 0, fun i hi => absurd hi (by omega), fun i _ hi => absurd hi (by omega)⟩
  · by_cases h0 : len = 0
    · subst h0
      exact ⟨0, 0, fun i hi => absurd hi (by omega), fun i _ hi => absurd hi (by omega)⟩
    · obtain ⟨b, off, rfl, hc'⟩ := ints_at hc (by omega)
      refine ⟨b, off, fun i hi => ⟨block_lt_of_cell (hc' i (by omega)), hc' i (by omega), ?_⟩, fun i W hi' => ?_⟩
      · have hlt : i < zs.length := by omega
        rw [show zs.getD i 0 = zs[i] from by simp [hlt]]
        exact hw _ (List.getElem_mem hlt)
      · have hel : P.elem t = e := by simp [Program.elem, ht]
        rw [run_indexAt_slice W t ⟨b, off, none⟩ len cap .i64 i (by rw [hel]; exact ht)]
        rcases hj : P.info? e with _ | j
        · rw [hj] at hi; simp at hi
        · rw [hj] at hi
          simp at hi
          rw [if_pos ⟨by omega, by omega⟩, hel]
          simp [sizeOf, typeInfo, hj, hi, Result.andThen, Addr.add]

/-! ### the four arrays -/
def bools (f : KM) : Array Value := ((List.range 16).map fun j => Value.bool (f j).isSome).toArray
def vals (f : KM) : Array Value := ((List.range 16).map fun j => Value.int .u16 ((f j).getD 0)).toArray
theorem bools_size (f : KM) : (bools f).size = 16 := by simp [bools]
theorem vals_size (f : KM) : (vals f).size = 16 := by simp [vals]
theorem bools_at (f : KM) {k : Nat} (h : k < 16) : (bools f)[k]? = some (.bool (f k).isSome) := by simp [bools, h]
theorem vals_at (f : KM) {k : Nat} (h : k < 16) : (vals f)[k]? = some (.int .u16 ((f k).getD 0)) := by simp [vals, h]
theorem bools_put (f : KM) {k : Nat} (_h : k < 16) (v : Int) : (bools f).setIfInBounds k (.bool true) = bools (kput f k v) := by
  apply Array.ext_getElem?
  intro i
  rw [Array.getElem?_setIfInBounds]
  by_cases hi : i < 16
  · rw [bools_at (kput f k v) hi]
    by_cases e : k = i
    · subst e; rw [if_pos rfl, if_pos (by rw [bools_size]; exact hi), kput_same]; rfl
    · rw [if_neg e, bools_at _ hi, kput_other v (fun h => e h.symm)]
  · have e1 : (bools (kput f k v))[i]? = none := Array.getElem?_eq_none (by rw [bools_size]; omega)
    have e2 : (bools f)[i]? = none := Array.getElem?_eq_none (by rw [bools_size]; omega)
    rw [e1, if_neg (by omega), e2]
theorem vals_put (f : KM) {k : Nat} (_h : k < 16) (v : Int) : (vals f).setIfInBounds k (.int .u16 v) = vals (kput f k v) := by
  apply Array.ext_getElem?
  intro i
  rw [Array.getElem?_setIfInBounds]
  by_cases hi : i < 16
  · rw [vals_at (kput f k v) hi]
    by_cases e : k = i
    · subst e; rw [if_pos rfl, if_pos (by rw [vals_size]; exact hi), kput_same]; rfl
    · rw [if_neg e, vals_at _ hi, kput_other v (fun h => e h.symm)]
  · have e1 : (vals (kput f k v))[i]? = none := Array.getElem?_eq_none (by rw [vals_size]; omega)
    have e2 : (vals f)[i]? = none := Array.getElem?_eq_none (by rw [vals_size]; omega)
    rw [e1, if_neg (by omega), e2]

/-- The law's own memory: from block B on the four arrays, and two maps behind them. -/
structure St (B : Nat) (w0 w : World) (mM mO : Option Nat) (f g : KM) : Prop where
  inM : w.heap[B]? = some (.cells (bools f) 55 (0, 0))
  inO : w.heap[B + 1]? = some (.cells (bools g) 55 (0, 0))
  vM : w.heap[B + 1 + 1]? = some (.cells (vals f) 56 (0, 0))
  vO : w.heap[B + 1 + 1 + 1]? = some (.cells (vals g) 56 (0, 0))
  mm : MapAt w mM f
  om : MapAt w mO g
  bM : ∀ b, mM = some b → B + 1 + 1 + 1 < b
  bO : ∀ b, mO = some b → B + 1 + 1 + 1 < b
  ne : ∀ b, mM = some b → mO ≠ some b
  dis : ∀ k, k < 16 → f k = none ∨ g k = none
  below : Below B w0 w

theorem MapAt.lt {w : World} {m : Option Nat} {f : KM} (h : MapAt w m f) : ∀ b, m = some b → b < w.heap.size := by
  rcases h with ⟨rfl, _⟩ | ⟨b, rfl, h⟩
  · intro b hb; cases hb
  · intro b' hb; cases hb; exact h.lt

theorem St.lt {B : Nat} {w0 w : World} {mM mO : Option Nat} {f g : KM} (h : St B w0 w mM mO f g) : B + 1 + 1 + 1 < w.heap.size := lt_of_block h.vO

/-- A step that turns none of the law's blocks. -/
theorem St.kept {B : Nat} {w0 w w' : World} {mM mO : Option Nat} {f g : KM} (h : St B w0 w mM mO f g) (hb : Below w.heap.size w w') : St B w0 w' mM mO f g := by
  have hl := h.lt
  exact ⟨(hb.block _ (by omega)).trans h.inM, (hb.block _ (by omega)).trans h.inO, (hb.block _ (by omega)).trans h.vM, (hb.block _ (by omega)).trans h.vO,
    h.mm.same fun b e => hb.block b (h.mm.lt b e), h.om.same fun b e => hb.block b (h.om.lt b e), h.bM, h.bO, h.ne, h.dis, h.below.trans (hb.mono (by omega))⟩

/-- 'inM[k] = true; vM[k] = v; mm[k] = v'. -/
theorem St.putM {B : Nat} {w0 w : World} {b : Nat} {mO : Option Nat} {f g : KM} (h : St B w0 w (some b) mO f g) {k : Nat} (hk : k < 16) (hg : g k = none) {v : Int} (hv : (Lit.int .u16 v).wf = true) :
    ∃ w', Sem.run Yba.prog (Instr.mapUpdate 57 (.map (some b)) (.int .u8 (k : Int)) (.int .u16 v)) ((w.setCell ⟨B, k, none⟩ (.bool true)).setCell ⟨B + 1 + 1, k, none⟩ (.int .u16 v)) = .ok () w' ∧ St B w0 w' (some b) mO (kput f k v) g := by
  have hl := h.lt
  have hM : Om w b f := by
    rcases h.mm with ⟨h1, _⟩ | ⟨b', h1, h2⟩
    · cases h1
    · cases h1; exact h2
  have hbM := h.bM b rfl
  have e1 : ∀ j, j ≠ B → j ≠ B + 1 + 1 → ((w.setCell ⟨B, k, none⟩ (.bool true)).setCell ⟨B + 1 + 1, k, none⟩ (.int .u16 v)).heap[j]? = w.heap[j]? := fun j h1 h2 => by
    rw [Below.heap_setCell _ _ _ _ h2, Below.heap_setCell _ _ _ _ h1]
  obtain ⟨w', hrun, hM', ht⟩ := (hM.same (e1 b (by omega) (by omega))).put hk hv
  have g2 := ht.grown
  have hsz : ((w.setCell ⟨B, k, none⟩ (.bool true)).setCell ⟨B + 1 + 1, k, none⟩ (.int .u16 v)).heap.size = w.heap.size := by simp
  have e2 : ∀ j, j < w.heap.size → j ≠ b → w'.heap[j]? = ((w.setCell ⟨B, k, none⟩ (.bool true)).setCell ⟨B + 1 + 1, k, none⟩ (.int .u16 v)).heap[j]? := fun j h1 h2 =>
    g2.block j (by rw [hsz]; exact h1) (fun e => h2 (by injection e))
  refine ⟨w', hrun, ?_, ?_, ?_, ?_, .inr ⟨b, rfl, hM'⟩, ?_, h.bM, h.bO, h.ne, ?_, ?_⟩
  · rw [e2 B (by omega) (by omega), Below.heap_setCell _ _ _ _ (by show B ≠ B + 1 + 1; omega), heap_setCell_same w B k _ 55 (.bool true) h.inM, bools_put f hk v]
  · rw [e2 _ (by omega) (by omega), e1 _ (by omega) (by omega)]; exact h.inO
  · rw [e2 _ (by omega) (by omega)]
    have e3 : (w.setCell ⟨B, k, none⟩ (.bool true)).heap[B + 1 + 1]? = some (.cells (vals f) 56 (0, 0)) := by rw [Below.heap_setCell _ _ _ _ (by show B + 1 + 1 ≠ B; omega)]; exact h.vM
    rw [heap_setCell_same _ (B + 1 + 1) k _ 56 (.int .u16 v) e3, vals_put f hk v]
  · rw [e2 _ (by omega) (by omega), e1 _ (by omega) (by omega)]; exact h.vO
  · refine h.om.same fun bo hbo => ?_
    have := h.bO bo hbo
    rw [e2 bo (h.om.lt bo hbo) (fun e => h.ne b rfl (by rw [hbo, e])), e1 bo (by omega) (by omega)]
  · intro j hj
    by_cases e : j = k
    · subst e; exact .inr hg
    · rw [kput_other v e]; exact h.dis j hj
  · refine ((h.below.setCell (p := ⟨B, k, none⟩) (Nat.le_refl _) _).setCell (p := ⟨B + 1 + 1, k, none⟩) (by show B ≤ B + 1 + 1; omega) _).grown g2 (by rw [hsz]; omega) (fun j e => by injection e with e; omega)

/-- 'inO[k] = true; vO[k] = v; om[k] = v'. -/
theorem St.putO {B : Nat} {w0 w : World} {b : Nat} {mM : Option Nat} {f g : KM} (h : St B w0 w mM (some b) f g) {k : Nat} (hk : k < 16) (hf : f k = none) {v : Int} (hv : (Lit.int .u16 v).wf = true) :
    ∃ w', Sem.run Yba.prog (Instr.mapUpdate 57 (.map (some b)) (.int .u8 (k : Int)) (.int .u16 v)) ((w.setCell ⟨B + 1, k, none⟩ (.bool true)).setCell ⟨B + 1 + 1 + 1, k, none⟩ (.int .u16 v)) = .ok () w' ∧ St B w0 w' mM (some b) f (kput g k v) := by
  have hl := h.lt
  have hO : Om w b g := by
    rcases h.om with ⟨h1, _⟩ | ⟨b', h1, h2⟩
    · cases h1
    · cases h1; exact h2
  have hbO := h.bO b rfl
  have e1 : ∀ j, j ≠ B + 1 → j ≠ B + 1 + 1 + 1 → ((w.setCell ⟨B + 1, k, none⟩ (.bool true)).setCell ⟨B + 1 + 1 + 1, k, none⟩ (.int .u16 v)).heap[j]? = w.heap[j]? := fun j h1 h2 => by
    rw [Below.heap_setCell _ _ _ _ h2, Below.heap_setCell _ _ _ _ h1]
  obtain ⟨w', hrun, hO', ht⟩ := (hO.same (e1 b (by omega) (by omega))).put hk hv
  have g2 := ht.grown
  have hsz : ((w.setCell ⟨B + 1, k, none⟩ (.bool true)).setCell ⟨B + 1 + 1 + 1, k, none⟩ (.int .u16 v)).heap.size = w.heap.size := by simp
  have e2 : ∀ j, j < w.heap.size → j ≠ b → w'.heap[j]? = ((w.setCell ⟨B + 1, k, none⟩ (.bool true)).setCell ⟨B + 1 + 1 + 1, k, none⟩ (.int .u16 v)).heap[j]? := fun j h1 h2 =>
    g2.block j (by rw [hsz]; exact h1) (fun e => h2 (by injection e))
  refine ⟨w', hrun, ?_, ?_, ?_, ?_, ?_, .inr ⟨b, rfl, hO'⟩, h.bM, h.bO, h.ne, ?_, ?_⟩
  · rw [e2 _ (by omega) (by omega), e1 _ (by omega) (by omega)]; exact h.inM
  · rw [e2 (B + 1) (by omega) (by omega), Below.heap_setCell _ _ _ _ (by show B + 1 ≠ B + 1 + 1 + 1; omega), heap_setCell_same w (B + 1) k _ 55 (.bool true) h.inO, bools_put g hk v]
  · rw [e2 _ (by omega) (by omega), e1 _ (by omega) (by omega)]; exact h.vM
  · rw [e2 _ (by omega) (by omega)]
    have e3 : (w.setCell ⟨B + 1, k, none⟩ (.bool true)).heap[B + 1 + 1 + 1]? = some (.cells (vals g) 56 (0, 0)) := by rw [Below.heap_setCell _ _ _ _ (by show B + 1 + 1 + 1 ≠ B + 1; omega)]; exact h.vO
    rw [heap_setCell_same _ (B + 1 + 1 + 1) k _ 56 (.int .u16 v) e3, vals_put g hk v]
  · refine h.mm.same fun bm hbm => ?_
    have := h.bM bm hbm
    rw [e2 bm (h.mm.lt bm hbm) (fun e => h.ne bm hbm (by rw [e])), e1 bm (by omega) (by omega)]
  · intro j hj
    by_cases e : j = k
    · subst e; exact .inl hf
    · rw [kput_other v e]; exact h.dis j hj
  · refine ((h.below.setCell (p := ⟨B + 1, k, none⟩) (by show B ≤ B + 1; omega) _).setCell (p := ⟨B + 1 + 1 + 1, k, none⟩) (by show B ≤ B + 1 + 1 + 1; omega) _).grown g2 (by rw [hsz]; omega) (fun j e => by injection e with e; omega)

/-- The cells of the four arrays. -/
theorem St.cells {B : Nat} {w0 w : World} {mM mO : Option Nat} {f g : KM} (h : St B w0 w mM mO f g) {k : Nat} (hk : k < 16) :
    w.cell? ⟨B, k, none⟩ = some (.bool (f k).isSome) ∧ w.cell? ⟨B + 1, k, none⟩ = some (.bool (g k).isSome) ∧ w.cell? ⟨B + 1 + 1, k, none⟩ = some (.int .u16 ((f k).getD 0)) ∧ w.cell? ⟨B + 1 + 1 + 1, k, none⟩ = some (.int .u16 ((g k).getD 0)) := by
  refine ⟨?_, ?_, ?_, ?_⟩
  · rw [cell_of_row w _ k _ _ _ h.inM]; exact bools_at f hk
  · rw [cell_of_row w _ k _ _ _ h.inO]; exact bools_at g hk
  · rw [cell_of_row w _ k _ _ _ h.vM]; exact vals_at f hk
  · rw [cell_of_row w _ k _ _ _ h.vO]; exact vals_at g hk
theorem St.free {B : Nat} {w0 w : World} {mM mO : Option Nat} {f g : KM} (h : St B w0 w mM mO f g) (k : Nat) :
    w.frozen? ⟨B, k, none⟩ = false ∧ w.frozen? ⟨B + 1, k, none⟩ = false ∧ w.frozen? ⟨B + 1 + 1, k, none⟩ = false ∧ w.frozen? ⟨B + 1 + 1 + 1, k, none⟩ = false :=
  ⟨frozen_of_row w _ k _ _ h.inM, frozen_of_row w _ k _ _ h.inO, frozen_of_row w _ k _ _ h.vM, frozen_of_row w _ k _ _ h.vO⟩
end Go.Proofs.Ybulkctyw
