/-
  The walks of (*Buffer[int]).resize: nothing to copy; one copy; two copies.
-/
import Derived.Test.YbulkctywRingParts
import Derived.WalkSpells
import Derived.WalkLawsBesides
import Derived.Deep.QuietTactic
import Derived.BigQuiet
import Derived.Deep.RegionLaw
import Derived.Deep.RegionHeld3
import Derived.Deep.OwnRows
namespace Go.Proofs.Ybulkctyw
open Go.RowKit
theorem info3 : (Yba.prog.info? 3).map (fun i => (i.zero, i.size, i.bytes)) = some (some (.int .i64 0), 1, 8) := by kernel_rfl
theorem size3 : (Yba.prog.info? 3).map (·.size) = some 1 := by kernel_rfl

theorem made_list (s : Nat) : ∃ Z : List Value, Z.toArray = madeCells #[Value.int .i64 0] s ∧ Z.length = s :=
  ⟨(madeCells #[Value.int .i64 0] s).toList, by simp, by simp [size_madeCells]⟩

/-- What resize leaves: the new row, the record turned to it; nothing else of what was there has turned. -/
def RzPost (p s : Nat) (row : List Value) (w w' : World) : Prop :=
  ∃ w4, Below w.heap.size w w4 ∧ w4.heap[w.heap.size]? = some (.cells row.toArray 3 (0, 0)) ∧
    (w4.setCell ⟨p, 0, none⟩ (.slice (some ⟨w.heap.size, 0, none⟩) s s)).setCell ⟨p, 1, none⟩ (.int .i64 0) = w'

theorem resize_one (p g c h n s : Nat) (X : List Value) (w : World) (hp : w.heap[p]? = some (.cells #[.slice (some ⟨g, 0, none⟩) c c, .int .i64 (h : Int), .int .i64 (n : Int)] 44 (0, 0)))
    (hg : g < w.heap.size) (hX : X.length = n) (hXc : ∀ j v, X[j]? = some v → w.cell? ⟨g, h + j, none⟩ = some v) (hX1 : ∀ v ∈ X, v.oneCell' = true)
    (hs : s ≤ 2 ^ 41) (hc : c ≤ 2 ^ 40) (hh : h < c) (hfit : h + n ≤ c) (hns : n ≤ s) :
    Calls Yba.prog 16 #[.pointer (some ⟨p, 0, none⟩), .int .i64 (s : Int)] w fun e w' => e = .returned (.tuple #[]) ∧ ∃ Z : List Value, Z.length = s ∧ RzPost p s (splice Z 0 X) w w' := by
  have hlt : p < w.heap.size := lt_of_block hp
  have h0 : w.cell? ⟨p, 0, none⟩ = some (.slice (some ⟨g, 0, none⟩) c c) := by simp [World.cell?, hp]
  have h1 : w.cell? ⟨p, 1, none⟩ = some (.int .i64 (h : Int)) := by simp [World.cell?, hp]
  have h2 : w.cell? ⟨p, 2, none⟩ = some (.int .i64 (n : Int)) := by simp [World.cell?, hp]
  have f0 : w.frozen? ⟨p, 0, none⟩ = false := by simp [World.frozen?, hp]
  have f1 : w.frozen? ⟨p, 1, none⟩ = false := by simp [World.frozen?, hp]
  have hmk := run_make_row' (P := Yba.prog) 42 3 (.int .i64 0) 8 Yba.underlying42 info3 rfl .i64 .i64 s (by omega) (by omega)
  obtain ⟨Z, hZ, hZl⟩ := made_list s
  rw [← hZ] at hmk
  clear hZ
  have k1 : (0 : Int) ≤ (h : Int) + (n : Int) := by omega
  have k2 : ((h : Int) + (n : Int)).toNat = h + n := by omega
  have k3 : ¬ c = h := by omega
  have hmin : X.length = Nat.min n s := by rw [hX]; exact (Nat.min_eq_left hns).symm
  have hfz : 0 + X.length ≤ Z.length := by omega
  have hsrc : ∀ k j v, X[j]? = some v → ((w.alloc (.cells Z.toArray 3)).drewN k).cell? ((⟨g, h, none⟩ : Addr).add j) = some v := by
    intro k j v hj
    rw [Go.WideShapes.add_plain]
    exact (World.cell?_alloc_past _ g (h + j) hg).trans (hXc j v hj)
  have hbel : ∀ k, Below w.heap.size w ((w.alloc (.cells Z.toArray 3)).drewN k) := fun k => below_drewN ((Below.refl _ _).alloc (Nat.le_refl _) _) k
  have hrow : ∀ k, ((w.alloc (.cells Z.toArray 3)).drewN k).heap[w.heap.size]? = some (.cells Z.toArray 3 (0, 0)) := fun k => heap_alloc_new w _
  have HZ : Hid (Z.length = s) := hZl
  clear hXc hX hp hZl
  go_enter Yba.func16, Yba.ntmps16
  go_wp2
  go_quiet (fail)
  go_wp2
  go_region_law (refine step_copy_splice rfl (.tmp 25) (.tmp 35) 42 42 rfl 3 Yba.underlying42 size3 _ _ _ _ _ _ rfl rfl w.heap.size 0 Z 3 (hrow _) X (by simpa using hmin) (fun _ => ⟨rfl, _, rfl, hsrc _⟩) hfz hX1 w.heap.size w (hbel _) (Nat.le_refl _) ?_; intro w4 hg4 hb4)
  all_goals
    clear hmin hfz hsrc hbel hrow hmk hX1
    have q0 : w4.cell? ⟨p, 0, none⟩ = some (.slice (some ⟨g, 0, none⟩) c c) := (hb4.cell (p := ⟨p, 0, none⟩) hlt).trans h0
    have q1 : w4.cell? ⟨p, 1, none⟩ = some (.int .i64 (h : Int)) := (hb4.cell (p := ⟨p, 1, none⟩) hlt).trans h1
    have q2 : w4.frozen? ⟨p, 0, none⟩ = false := (hb4.frozen (p := ⟨p, 0, none⟩) hlt).trans f0
    have q3 : w4.frozen? ⟨p, 1, none⟩ = false := (hb4.frozen (p := ⟨p, 1, none⟩) hlt).trans f1
    go_wp2
    go_end0
    exact ⟨rfl, Z, HZ.out, w4, hb4, hg4.out, rfl⟩

/-- The ring that is nil: nothing to copy. -/
theorem resize_nil (p s : Nat) (w : World) (hp : w.heap[p]? = some (.cells #[.slice none 0 0, .int .i64 0, .int .i64 0] 44 (0, 0))) (hs : s ≤ 2 ^ 41) :
    Calls Yba.prog 16 #[.pointer (some ⟨p, 0, none⟩), .int .i64 (s : Int)] w fun e w' => e = .returned (.tuple #[]) ∧ ∃ Z : List Value, Z.length = s ∧ RzPost p s (splice Z 0 []) w w' := by
  have hlt : p < w.heap.size := lt_of_block hp
  have h0 : w.cell? ⟨p, 0, none⟩ = some (.slice none 0 0) := by simp [World.cell?, hp]
  have h1 : w.cell? ⟨p, 1, none⟩ = some (.int .i64 0) := by simp [World.cell?, hp]
  have h2 : w.cell? ⟨p, 2, none⟩ = some (.int .i64 0) := by simp [World.cell?, hp]
  have f0 : w.frozen? ⟨p, 0, none⟩ = false := by simp [World.frozen?, hp]
  have f1 : w.frozen? ⟨p, 1, none⟩ = false := by simp [World.frozen?, hp]
  have hmk := run_make_row' (P := Yba.prog) 42 3 (.int .i64 0) 8 Yba.underlying42 info3 rfl .i64 .i64 s (by omega) (by omega)
  obtain ⟨Z, hZ, hZl⟩ := made_list s
  rw [← hZ] at hmk
  clear hZ
  have hmin : ([] : List Value).length = Nat.min 0 s := by simp
  have hfz : 0 + ([] : List Value).length ≤ Z.length := by simp
  have hbel : ∀ k, Below w.heap.size w ((w.alloc (.cells Z.toArray 3)).drewN k) := fun k => below_drewN ((Below.refl _ _).alloc (Nat.le_refl _) _) k
  have hrow : ∀ k, ((w.alloc (.cells Z.toArray 3)).drewN k).heap[w.heap.size]? = some (.cells Z.toArray 3 (0, 0)) := fun k => heap_alloc_new w _
  have HZ : Hid (Z.length = s) := hZl
  clear hp hZl
  go_enter Yba.func16, Yba.ntmps16
  go_wp2
  go_quiet (fail)
  go_wp2
  go_region_law (refine step_copy_splice rfl (.tmp 25) (.tmp 35) 42 42 rfl 3 Yba.underlying42 size3 _ _ _ _ _ _ rfl rfl w.heap.size 0 Z 3 (hrow _) [] (by simp) (fun h => absurd h (by simp)) hfz (by simp) w.heap.size w (hbel _) (Nat.le_refl _) ?_; intro w4 hg4 hb4)
  all_goals
    clear hmin hfz hbel hrow hmk
    have q0 : w4.cell? ⟨p, 0, none⟩ = some (.slice none 0 0) := (hb4.cell (p := ⟨p, 0, none⟩) hlt).trans h0
    have q1 : w4.cell? ⟨p, 1, none⟩ = some (.int .i64 0) := (hb4.cell (p := ⟨p, 1, none⟩) hlt).trans h1
    have q2 : w4.frozen? ⟨p, 0, none⟩ = false := (hb4.frozen (p := ⟨p, 0, none⟩) hlt).trans f0
    have q3 : w4.frozen? ⟨p, 1, none⟩ = false := (hb4.frozen (p := ⟨p, 1, none⟩) hlt).trans f1
    go_wp2
    go_end0
    exact ⟨rfl, Z, HZ.out, w4, hb4, hg4.out, rfl⟩

set_option maxHeartbeats 1000000 in
/-- The ring wraps round: two copies. -/
theorem resize_two (p g c h n s : Nat) (X1 X2 : List Value) (w : World) (hp : w.heap[p]? = some (.cells #[.slice (some ⟨g, 0, none⟩) c c, .int .i64 (h : Int), .int .i64 (n : Int)] 44 (0, 0)))
    (hg : g < w.heap.size) (hX1 : X1.length = c - h) (hX2 : X2.length = h + n - c) (hXc1 : ∀ j v, X1[j]? = some v → w.cell? ⟨g, h + j, none⟩ = some v) (hXc2 : ∀ j v, X2[j]? = some v → w.cell? ⟨g, j, none⟩ = some v)
    (hXo1 : ∀ v ∈ X1, v.oneCell' = true) (hXo2 : ∀ v ∈ X2, v.oneCell' = true)
    (hs : s ≤ 2 ^ 41) (hc : c ≤ 2 ^ 40) (hh : h < c) (hn : n ≤ c) (hfit : ¬ h + n ≤ c) (hns : n ≤ s) :
    Calls Yba.prog 16 #[.pointer (some ⟨p, 0, none⟩), .int .i64 (s : Int)] w fun e w' => e = .returned (.tuple #[]) ∧ ∃ Z : List Value, Z.length = s ∧ RzPost p s (splice (splice Z 0 X1) X1.length X2) w w' := by
  have hlt : p < w.heap.size := lt_of_block hp
  have h0 : w.cell? ⟨p, 0, none⟩ = some (.slice (some ⟨g, 0, none⟩) c c) := by simp [World.cell?, hp]
  have h1 : w.cell? ⟨p, 1, none⟩ = some (.int .i64 (h : Int)) := by simp [World.cell?, hp]
  have h2 : w.cell? ⟨p, 2, none⟩ = some (.int .i64 (n : Int)) := by simp [World.cell?, hp]
  have f0 : w.frozen? ⟨p, 0, none⟩ = false := by simp [World.frozen?, hp]
  have f1 : w.frozen? ⟨p, 1, none⟩ = false := by simp [World.frozen?, hp]
  have hmk := run_make_row' (P := Yba.prog) 42 3 (.int .i64 0) 8 Yba.underlying42 info3 rfl .i64 .i64 s (by omega) (by omega)
  obtain ⟨Z, hZ, hZl⟩ := made_list s
  rw [← hZ] at hmk
  clear hZ
  have k3 : ¬ c = h := by omega
  have k4 : h ≤ c := by omega
  have hmin : Hid (X1.length = Nat.min (c - h) s) := by rw [hX1]; exact (Nat.min_eq_left (by omega)).symm
  have hfz : 0 + X1.length ≤ Z.length := by omega
  have hsrc : ∀ k j v, X1[j]? = some v → ((w.alloc (.cells Z.toArray 3)).drewN k).cell? ((⟨g, h, none⟩ : Addr).add j) = some v := by
    intro k j v hj
    rw [Go.WideShapes.add_plain]
    exact (World.cell?_alloc_past _ g (h + j) hg).trans (hXc1 j v hj)
  have hbel : ∀ k, Below w.heap.size w ((w.alloc (.cells Z.toArray 3)).drewN k) := fun k => below_drewN ((Below.refl _ _).alloc (Nat.le_refl _) _) k
  have hrow : ∀ k, ((w.alloc (.cells Z.toArray 3)).drewN k).heap[w.heap.size]? = some (.cells Z.toArray 3 (0, 0)) := fun k => heap_alloc_new w _
  have HZ : Hid (Z.length = s) := hZl
  have H1 : Hid (X1.length = c - h) := hX1
  have H2 : Hid (X2.length = h + n - c) := hX2
  have a1 : X1.length ≤ s := by omega
  have a2 : ¬ s = X1.length := by omega
  have b2 : IntKind.i64.wrap ((h : Int) + (n : Int) - (c : Int)) = (X2.length : Int) := by rw [IntKind.wrap_i64]; omega
  have b3 : X2.length ≤ c := by omega
  have b4 : ¬ c = 0 := by omega
  clear hp hZl hX1 hX2
  go_enter Yba.func16, Yba.ntmps16
  go_wp2
  go_quiet (fail)
  go_wp2
  go_region_law (refine step_copy_splice rfl (.tmp 37) (.tmp 46) 42 42 rfl 3 Yba.underlying42 size3 _ _ _ _ _ _ rfl rfl w.heap.size 0 Z 3 (hrow _) X1 hmin.out (fun _ => ⟨rfl, _, rfl, hsrc _⟩) hfz hXo1 w.heap.size w (hbel _) (Nat.le_refl _) ?_; intro w4 hg4 hb4)
  all_goals
    clear hmin hfz hsrc hbel hrow hmk
    have q0 : w4.cell? ⟨p, 0, none⟩ = some (.slice (some ⟨g, 0, none⟩) c c) := (hb4.cell (p := ⟨p, 0, none⟩) hlt).trans h0
    have q1 : w4.cell? ⟨p, 1, none⟩ = some (.int .i64 (h : Int)) := (hb4.cell (p := ⟨p, 1, none⟩) hlt).trans h1
    have q2 : w4.frozen? ⟨p, 0, none⟩ = false := (hb4.frozen (p := ⟨p, 0, none⟩) hlt).trans f0
    have q3 : w4.frozen? ⟨p, 1, none⟩ = false := (hb4.frozen (p := ⟨p, 1, none⟩) hlt).trans f1
    go_wp2
    have hmin2 : Hid (X2.length = Nat.min X2.length (s - X1.length)) := (Nat.min_eq_left (by have := H1.out; have := H2.out; omega)).symm
    have hfz2 : X1.length + X2.length ≤ (splice Z 0 X1).length := by rw [length_splice _ _ _ (by have := HZ.out; omega)]; have := H1.out; have := H2.out; have := HZ.out; omega
    have hsrc2 : ∀ k j v, X2[j]? = some v → (w4.drewN k).cell? ((⟨g, 0, none⟩ : Addr).add j) = some v := by
      intro k j v hj
      rw [Go.WideShapes.add_plain, Nat.zero_add]
      exact (hb4.cell (p := ⟨g, j, none⟩) hg).trans (hXc2 j v hj)
    have hrow2 : ∀ k, (w4.drewN k).heap[w.heap.size]? = some (.cells (splice Z 0 X1).toArray 3 (0, 0)) := fun k => hg4.out
    have hbel2 : ∀ k, Below w.heap.size w (w4.drewN k) := fun k => below_drewN hb4 k
    go_region_law (refine step_copy_splice rfl (.tmp 50) (.tmp 62) 42 42 rfl 3 Yba.underlying42 size3 _ _ _ _ _ _ rfl rfl w.heap.size X1.length (splice Z 0 X1) 3 (hrow2 1) X2 hmin2.out (fun _ => ⟨rfl, _, rfl, hsrc2 1⟩) hfz2 hXo2 w.heap.size w (hbel2 1) (Nat.le_refl _) ?_; intro w5 hg5 hb5)
    all_goals
      clear hmin2 hfz2 hsrc2 hrow2 hbel2 hg4
      have r0 : w5.cell? ⟨p, 0, none⟩ = some (.slice (some ⟨g, 0, none⟩) c c) := (hb5.cell (p := ⟨p, 0, none⟩) hlt).trans h0
      have r1 : w5.cell? ⟨p, 1, none⟩ = some (.int .i64 (h : Int)) := (hb5.cell (p := ⟨p, 1, none⟩) hlt).trans h1
      have r2 : w5.frozen? ⟨p, 0, none⟩ = false := (hb5.frozen (p := ⟨p, 0, none⟩) hlt).trans f0
      have r3 : w5.frozen? ⟨p, 1, none⟩ = false := (hb5.frozen (p := ⟨p, 1, none⟩) hlt).trans f1
      go_wp2
      go_end0
      exact ⟨rfl, Z, HZ.out, w5, hb5, hg5.out, rfl⟩
end Go.Proofs.Ybulkctyw
