/-
  A slice of steps that came in ('[]ZzS4785AStep', three cells an element), as the law uses it.
-/
import Derived.Test.YbulkcuboVcMath
import Derived.Test.YbulkcuboSkip
import Derived.Deep.SlicePairs
import Derived.OpenShut
namespace Go.Proofs.Ybulkcubo
open Go.RowKit Go.Deep Go.ChangeShapes Go.WideShapes

/-- What a walk asks of the steps: an index below the length leads to three cells. -/
def Steps (w : World) (a : Option Addr) (len cap b off : Nat) (OP AA BB : Nat → Nat) : Prop :=
  (∀ i : Nat, i < len → b < w.heap.size ∧ w.cell? ⟨b, off + i * 3, none⟩ = some (.int .u8 (OP i : Int)) ∧ w.cell? ⟨b, off + i * 3 + 1, none⟩ = some (.int .u8 (AA i : Int)) ∧ w.cell? ⟨b, off + i * 3 + 2, none⟩ = some (.int .u16 (BB i : Int)) ∧
    OP i < 256 ∧ AA i < 256 ∧ BB i < 65536) ∧
  ∀ (i : Nat) (W : World), i < len → Sem.run Yba.prog (Instr.indexAt 22 (.slice a len cap) (.int .i64 (i : Int))) W = .ok (.pointer (some ⟨b, off + i * 3, none⟩)) W

theorem cells28 : Yba.prog.cellsOf 28 = 3 := by kernel_rfl
theorem cells5 : Yba.prog.cellsOf 5 = 1 := by kernel_rfl
theorem cells26 : Yba.prog.cellsOf 26 = 1 := by kernel_rfl
theorem isz28 : (Yba.prog.info? 28).map (fun j => j.size) = some 3 := by kernel_rfl

theorem nat_u8 {z : Int} (h : (Lit.int .u8 z).wf = true) : ∃ n : Nat, z = n ∧ n < 256 := by
  have : 0 ≤ z ∧ z < 256 := by
    simp [Lit.wf, IntKind.min, IntKind.max, IntKind.signed, IntKind.bits] at h
    omega
  exact ⟨z.toNat, by omega, by omega⟩
theorem nat_u16 {z : Int} (h : (Lit.int .u16 z).wf = true) : ∃ n : Nat, z = n ∧ n < 65536 := by
  have : 0 ≤ z ∧ z < 65536 := by
    simp [Lit.wf, IntKind.min, IntKind.max, IntKind.signed, IntKind.bits] at h
    omega
  exact ⟨z.toNat, by omega, by omega⟩

set_option maxRecDepth 4000 in
theorem steps_open {H : Type} {enc : TypeId × Value → H} {w : World} {base : Nat} {sp : Nat → Bool} {held : Bool} {fuel : Nat} {a : Option Addr} {len cap : Nat} {x : DataW H × List MemPlace}
    (h : DataW.trod enc Yba.prog w base sp held fuel 22 [.slice a len cap] = some x) : ∃ b off OP AA BB, Steps w a len cap b off OP AA BB := by
  rcases open_slice (t := 22) (e := 28) Yba.underlying22 h with ⟨hcs, _⟩ | ⟨ad, l, c, m, n, D, Pl, hcs, _, hl, hm, hmm, _, hx⟩
  · simp only [List.cons.injEq, Value.slice.injEq, and_true] at hcs
    obtain ⟨rfl, rfl, rfl⟩ := hcs
    exact ⟨0, 0, fun _ => 0, fun _ => 0, fun _ => 0, fun i hi => absurd hi (by omega), fun i _ hi => absurd hi (by omega)⟩
  · simp only [List.cons.injEq, Value.slice.injEq, and_true] at hcs
    obtain ⟨rfl, rfl, rfl⟩ := hcs
    by_cases h0 : len = 0
    · subst h0
      exact ⟨0, 0, fun _ => 0, fun _ => 0, fun _ => 0, fun i hi => absurd hi (by omega), fun i _ hi => absurd hi (by omega)⟩
    · have hlm : len ≤ m := by rw [hmm]; split <;> omega
      have each : ∀ i, i < len → ∃ q : Nat × Nat × Nat, w.cell? (ad.add (i * 3)) = some (.int .u8 (q.1 : Int)) ∧ w.cell? (ad.add (i * 3 + 1)) = some (.int .u8 (q.2.1 : Int)) ∧ w.cell? (ad.add (i * 3 + 2)) = some (.int .u16 (q.2.2 : Int)) ∧
          q.1 < 256 ∧ q.2.1 < 256 ∧ q.2.2 < 65536 := by
        intro i hi
        obtain ⟨cs', h1, h2⟩ := hx i (by omega)
        rw [cells28] at h1
        obtain ⟨_, hlen, hcell⟩ := World.cells?_some h1
        obtain ⟨xs, k, hk, hxy, _, hxl, hf⟩ := DataW.trod_struct Yba.underlying28 h2
        have hxl' : xs.length = 3 := by rw [hxl]; rfl
        match xs, hxl', cs', hlen with
        | [y0, y1, y2], _, [v0, v1, v2], _ =>
          have g0 := hf 0 _ rfl
          have g1 := hf 1 _ rfl
          have g2 := hf 2 _ rfl
          simp [cells5, cells26] at g0 g1 g2
          have e0 := hcell 0 (by omega)
          have e1 := hcell 1 (by omega)
          have e2 := hcell 2 (by omega)
          rw [add_add] at e0 e1 e2
          obtain ⟨u, hu, _, hw⟩ := DataW.trod_int (k := .u8) Yba.underlying5 g0
          obtain ⟨u1, hu1, _, hw1⟩ := DataW.trod_int (k := .u8) Yba.underlying5 g1
          obtain ⟨u2, hu2, _, hw2⟩ := DataW.trod_int (k := .u16) Yba.underlying26 g2
          simp only [List.cons.injEq, and_true] at hu hu1 hu2
          subst hu hu1 hu2
          obtain ⟨n0, rfl, l0⟩ := nat_u8 hw
          obtain ⟨n1, rfl, l1⟩ := nat_u8 hw1
          obtain ⟨n2, rfl, l2⟩ := nat_u16 hw2
          exact ⟨(n0, n1, n2), by simpa using e0, by simpa using e1, by simpa using e2, l0, l1, l2⟩
      obtain ⟨Q, hQ⟩ := choose_lt each
      obtain ⟨b, off, spot⟩ := ad
      have hspot : spot = none := by
        have := (hQ 0 (by omega)).1
        simpa [Addr.add] using World.cell?_spot this
      subst hspot
      refine ⟨b, off, fun i => (Q i).1, fun i => (Q i).2.1, fun i => (Q i).2.2, fun i hi => ?_, fun i W hi => ?_⟩
      · obtain ⟨h1, h2, h3, l⟩ := hQ i hi
        rw [Go.WideShapes.add_plain] at h1 h2 h3
        exact ⟨World.block_lt_of_cell? w _ h1, h1, h2, h3, l⟩
      · have hel : Yba.prog.elem 22 = 28 := by simp [Program.elem, Yba.underlying22]
        rw [run_indexAt_slice W 22 ⟨b, off, none⟩ len cap .i64 i (by rw [hel]; exact Yba.underlying22)]
        have hi' := isz28
        rcases hj : Yba.prog.info? 28 with _ | j
        · rw [hj] at hi'; simp at hi'
        · rw [hj] at hi'
          simp at hi'
          rw [if_pos ⟨by omega, by omega⟩, hel]
          simp [sizeOf, typeInfo, hj, hi', Result.andThen, Addr.add]
          try (intro e0; simp [e0])
end Go.Proofs.Ybulkcubo
