/-
  A slice of steps that came in ('[]ZzS4780BStep', two cells an element), as the two ring laws use it.
-/
import Derived.Test.YbulkctywRingPop
import Derived.Deep.SlicePairs
import Derived.OpenShut
namespace Go.Proofs.Ybulkctyw
open Go.RowKit Go.Deep

/-- What a walk asks of the steps: an index below the length leads to two cells. -/
def Steps (w : World) (a : Option Addr) (len cap b off : Nat) (OP AA : Nat → Int) : Prop :=
  (∀ i : Nat, i < len → b < w.heap.size ∧ w.cell? ⟨b, off + i * 2, none⟩ = some (.int .u8 (OP i)) ∧ w.cell? ⟨b, off + i * 2 + 1, none⟩ = some (.int .i64 (AA i)) ∧ (Lit.int .u8 (OP i)).wf = true) ∧
  ∀ (i : Nat) (W : World), i < len → Sem.run Yba.prog (Instr.indexAt 41 (.slice a len cap) (.int .i64 (i : Int))) W = .ok (.pointer (some ⟨b, off + i * 2, none⟩)) W

theorem cells46 : Yba.prog.cellsOf 46 = 2 := by kernel_rfl
theorem cells3 : Yba.prog.cellsOf 3 = 1 := by kernel_rfl
theorem cells5' : Yba.prog.cellsOf 5 = 1 := by kernel_rfl
theorem isz46 : (Yba.prog.info? 46).map (fun j => j.size) = some 2 := by kernel_rfl

theorem steps_open {H : Type} {enc : TypeId × Value → H} {w : World} {base : Nat} {sp : Nat → Bool} {held : Bool} {fuel : Nat} {a : Option Addr} {len cap : Nat} {x : DataW H × List MemPlace}
    (h : DataW.trod enc Yba.prog w base sp held fuel 41 [.slice a len cap] = some x) : ∃ b off OP AA, Steps w a len cap b off OP AA := by
  rcases open_slice_pairs (t := 41) (e := 46) Yba.underlying41 Yba.underlying46 cells46 rfl rfl cells5' cells3 h with ⟨hcs, _⟩ | ⟨ad, l, c, m, n, V0, V1, D0, D1, P0, P1, hcs, _, hl, hm, hmm, _, hx⟩
  · simp only [List.cons.injEq, Value.slice.injEq, and_true] at hcs
    obtain ⟨rfl, rfl, rfl⟩ := hcs
    exact ⟨0, 0, fun _ => 0, fun _ => 0, fun i hi => absurd hi (by omega), fun i _ hi => absurd hi (by omega)⟩
  · simp only [List.cons.injEq, Value.slice.injEq, and_true] at hcs
    obtain ⟨rfl, rfl, rfl⟩ := hcs
    by_cases h0 : len = 0
    · subst h0
      exact ⟨0, 0, fun _ => 0, fun _ => 0, fun i hi => absurd hi (by omega), fun i _ hi => absurd hi (by omega)⟩
    · have hlm : len ≤ m := by rw [hmm]; split <;> omega
      obtain ⟨b, off, spot⟩ := ad
      have hspot : spot = none := by
        have := (hx 0 (by omega)).1
        simpa [Addr.add] using World.cell?_spot this
      subst hspot
      have each : ∀ i, i < len → ∃ q : Int × Int, V0 i = .int .u8 q.1 ∧ V1 i = .int .i64 q.2 ∧ (Lit.int .u8 q.1).wf = true := by
        intro i hi
        obtain ⟨_, _, h3, h4⟩ := hx i (by omega)
        obtain ⟨u, hu, _, hw⟩ := DataW.trod_int (k := .u8) Yba.underlying5 h3
        obtain ⟨v, hv, _, _⟩ := DataW.trod_int (k := .i64) Yba.underlying3 h4
        simp only [List.cons.injEq, and_true] at hu hv
        exact ⟨(u, v), hu, hv, hw⟩
      obtain ⟨Q, hQ⟩ := choose_lt each
      refine ⟨b, off, fun i => (Q i).1, fun i => (Q i).2, fun i hi => ?_, fun i W hi => ?_⟩
      · obtain ⟨h1, h2, _, _⟩ := hx i (by omega)
        obtain ⟨e1, e2, e3⟩ := hQ i hi
        rw [Go.WideShapes.add_plain] at h1 h2
        refine ⟨block_lt_of_cell h1, by rw [h1, e1], ?_, e3⟩
        rw [← e2, ← h2]
        rfl
      · have hel : Yba.prog.elem 41 = 46 := by simp [Program.elem, Yba.underlying41]
        rw [run_indexAt_slice W 41 ⟨b, off, none⟩ len cap .i64 i (by rw [hel]; exact Yba.underlying41)]
        have hi' := isz46
        rcases hj : Yba.prog.info? 46 with _ | j
        · rw [hj] at hi'; simp at hi'
        · rw [hj] at hi'
          simp at hi'
          rw [if_pos ⟨by omega, by omega⟩, hel]
          simp [sizeOf, typeInfo, hj, hi', Result.andThen, Addr.add]
          try (intro e0; simp [e0])

theorem Rg.same {w w' : World} {p : Nat} {o : Option Nat} {c h : Nat} {q : List Int} (hR : Rg w p o c h q) (h1 : w'.heap[p]? = w.heap[p]?) (h2 : ∀ g, o = some g → w'.heap[g]? = w.heap[g]?) : Rg w' p o c h q := by
  obtain ⟨hp, h0 | ⟨g, rfl, hgp, hh, hqc, hc16, hm, cs, hg, r⟩⟩ := hR
  · exact ⟨h1.trans hp, .inl h0⟩
  · exact ⟨h1.trans hp, .inr ⟨g, rfl, hgp, hh, hqc, hc16, hm, cs, (h2 g rfl).trans hg, r⟩⟩

theorem Rg.lt {w : World} {p : Nat} {o : Option Nat} {c h : Nat} {q : List Int} (hR : Rg w p o c h q) : ∀ g, o = some g → g < w.heap.size := by
  obtain ⟨hp, ⟨rfl, _⟩ | ⟨g, rfl, hgp, hh, hqc, hc16, hm, cs, hg, r⟩⟩ := hR
  · intro g h; cases h
  · intro g' h; cases h; exact lt_of_block hg

theorem Rg.alloc {w : World} {p : Nat} {o : Option Nat} {c h : Nat} {q : List Int} (hR : Rg w p o c h q) (x : Obj) : Rg (w.alloc x) p o c h q :=
  hR.same (Below.heap_alloc _ _ _ (lt_of_block hR.1)) (fun g hg => Below.heap_alloc _ _ _ (hR.lt g hg))

theorem Rg.cap {w : World} {p : Nat} {o : Option Nat} {c h : Nat} {q : List Int} (hR : Rg w p o c h q) : (c = 0 ∨ 16 ≤ c) ∧ q.length ≤ c := by
  obtain ⟨hp, ⟨rfl, rfl, rfl, rfl⟩ | ⟨g, rfl, hgp, hh, hqc, hc16, r⟩⟩ := hR
  · exact ⟨.inl rfl, by simp⟩
  · exact ⟨.inr hc16, hqc⟩

theorem Rg.start (w : World) : Rg (w.alloc (.cells #[.slice none 0 0, .int .i64 0, .int .i64 0] 44)) w.heap.size none 0 0 [] :=
  ⟨heap_alloc_new _ _, .inl ⟨rfl, rfl, rfl, rfl⟩⟩
end Go.Proofs.Ybulkctyw
