/-
  The walks of ratelimit.LawS4780AFields and LawS4780AFresh: the clamp, the two makers, the two laws.
-/
import Derived.Test.YbulkctywRows
import Derived.WalkKit
import Derived.WalkSpells
import Derived.WalkLawsBesides
import Derived.StillTactics
import Derived.Laws.Pointers
import Derived.Deep.RegionHeld3
import Derived.Deep.QuietTactic
import Derived.BigQuiet
import Derived.RowKit3
import Derived.LaidEqlPtr
namespace Go.Proofs.Ybulkctyw
open Go.RowKit

/-- What both functions make of a duration: at least nought. -/
def cl (d : Int) : Int := if d < 0 then 0 else d
theorem cl_neg {d : Int} (h : d < 0) : cl d = 0 := by unfold cl; rw [if_pos h]
theorem cl_pos {d : Int} (h : ¬ d < 0) : cl d = d := by unfold cl; rw [if_neg h]
theorem cl_ge (d : Int) : 0 ≤ cl d := by unfold cl; split <;> omega
theorem ret_int {k : IntKind} {a b : Int} (h : a = b) : Ending.returned (.int k a) = .returned (.int k b) := by rw [h]

/-- ratelimit.zzs4780aclamp -/
theorem clamp_any (d : Int) (w : World) :
    Calls Yba.prog 9 #[.int .i64 d] w fun e w' => e = .returned (.int .i64 (cl d)) ∧ w' = w := by
  by_cases h : d < 0
  · go_enter Yba.func9, Yba.ntmps9
    go_wp2
    go_ret
    exact ⟨ret_int (cl_neg h).symm, rfl⟩
  · go_enter Yba.func9, Yba.ntmps9
    go_wp2
    go_ret
    exact ⟨ret_int (cl_pos (by omega)).symm, rfl⟩

/-- ratelimit.NewFastSlow[int]: a new count of tries, a new record that leads to it. -/
theorem newfs_int (f s m : Int) (w : World) :
    Calls Yba.prog 8 #[.int .i64 f, .int .i64 s, .int .i64 m] w fun e w' =>
      e = .returned (.iface 26 (.pointer (some ⟨w.heap.size + 1, 0, none⟩))) ∧
      (w.alloc (.cells #[.int .i32 0, .int .u32 0, .map none, .map none, .int .i64 0, .int .i64 0] 75)).alloc
        (.cells #[.pointer (some ⟨w.heap.size, 0, none⟩), .int .i64 (cl f), .int .i64 (cl s), .int .i64 m] 30) = w' := by
  by_cases h1 : f < 0 <;> by_cases h2 : s < 0
  all_goals
    go_enter Yba.func8, Yba.ntmps8
    go_wp2
    go_ret
    refine ⟨rfl, ?_⟩
  · rw [cl_neg h1, cl_neg h2]
  · rw [cl_neg h1, cl_pos (by omega)]
  · rw [cl_neg h2, cl_pos (by omega)]
  · rw [cl_pos (by omega), cl_pos (by omega)]

theorem grown_drewN {w w1 : World} (h : Grown w w1) (n : Nat) : Grown w (w1.drewN n) := by
  induction n with
  | zero => exact h
  | succ n ih => exact ih.drew

theorem ta_int (p : Addr) (w : World) : Sem.run Yba.prog (Instr.typeAssert (.iface 26 (.pointer (some p))) 23 26 true) w = .ok (.tuple #[.pointer (some p), .bool true]) w := by kernel_rfl

theorem fields_walk (a0 a1 a2 : Int) (w : World) :
    Calls Yba.prog 3 #[.int .i64 a0, .int .i64 a1, .int .i64 a2] w fun e w' => e = .returned (.bool true) ∧ Grown w w' := by
  have hta := ta_int
  go_enter Yba.func3, Yba.ntmps3
  go_wp2_with (go_at_call 8; refine (newfs_int _ _ _ _).mono ?_; rintro e w' ⟨rfl, rfl⟩)
  go_quiet ((go_at_call 9; exact Calls.quiet_of_same (clamp_any _ _)))
  go_wp2
  go_ret
  exact ⟨rfl, grown_drewN (((Grown.refl _).alloc _ _).alloc _ _) _⟩
/-- ratelimit.NewFastSlow[string]: a new count of tries, a new record that leads to it. -/
theorem newfs_str (f s m : Int) (w : World) :
    Calls Yba.prog 10 #[.int .i64 f, .int .i64 s, .int .i64 m] w fun e w' =>
      e = .returned (.iface 36 (.pointer (some ⟨w.heap.size + 1, 0, none⟩))) ∧
      (w.alloc (.cells #[.int .i32 0, .int .u32 0, .map none, .map none, .int .i64 0, .int .i64 0] 80)).alloc
        (.cells #[.pointer (some ⟨w.heap.size, 0, none⟩), .int .i64 (cl f), .int .i64 (cl s), .int .i64 m] 40) = w' := by
  by_cases h1 : f < 0 <;> by_cases h2 : s < 0
  all_goals
    go_enter Yba.func10, Yba.ntmps10
    go_wp2
    go_ret
    refine ⟨rfl, ?_⟩
  · rw [cl_neg h1, cl_neg h2]
  · rw [cl_neg h1, cl_pos (by omega)]
  · rw [cl_neg h2, cl_pos (by omega)]
  · rw [cl_pos (by omega), cl_pos (by omega)]

theorem ta_str (p : Addr) (w : World) : Sem.run Yba.prog (Instr.typeAssert (.iface 36 (.pointer (some p))) 34 36 true) w = .ok (.tuple #[.pointer (some p), .bool true]) w := by kernel_rfl

theorem info40 : (Yba.prog.info? 40).map (fun j => j.size) = some 4 := by kernel_rfl
theorem info80 : (Yba.prog.info? 80).map (fun j => j.size) = some 6 := by kernel_rfl

/-- Two pointers into two blocks are not equal, however many answers have been drawn. -/
theorem ptr_ne {tp te n : Nat} (hp : Yba.prog.underlying tp = some (.pointer te)) (hi : (Yba.prog.info? te).map (fun j => j.size) = some (n + 1)) (W : World) (b c : Nat) (hne : b ≠ c)
    {ca cb : Array Value} {ta tb : TypeId} (ha : W.heap[b]? = some (.cells ca ta (0, 0))) (hb : W.heap[c]? = some (.cells cb tb (0, 0))) (k : Nat) :
    Sem.run Yba.prog (binOp .eql tp (.pointer (some ⟨b, 0, none⟩)) (.pointer (some ⟨c, 0, none⟩))) (W.drewN k) = .ok (.bool false) (W.drewN k) := by
  rcases hj : Yba.prog.info? te with _ | j
  · rw [hj] at hi; simp at hi
  · rw [hj] at hi
    simp at hi
    exact run_eql_ptr_other (W.drewN k) hp hj (by omega) (by intro h; exact hne (by injection h)) ha hb

theorem clamp_later (d : Int) (w : World) (n k : Nat) :
    Calls Yba.prog 9 #[.int .i64 d] (w.drewN (k + n)) fun e w'' => e = .returned (.int .i64 (cl d)) ∧ ∃ m, w'' = w.drewN (k + m) :=
  (clamp_any d _).mono fun _ _ ⟨he, hw⟩ => ⟨he, n, hw⟩

set_option maxHeartbeats 1000000 in
theorem fresh_walk (a0 a1 a2 : Int) (w : World) :
    Calls Yba.prog 4 #[.int .i64 a0, .int .i64 a1, .int .i64 a2] w fun e w' => e = .returned (.bool true) ∧ Grown w w' := by
  have hta := ta_str
  have c0 := cl_ge a0
  have c1 := cl_ge a1
  have he1 := ptr_ne (tp := 36) (te := 40) Yba.underlying36 info40 ((((w.alloc (.cells #[.int .i32 0, .int .u32 0, .map none, .map none, .int .i64 0, .int .i64 0] 80)).alloc
        (.cells #[.pointer (some ⟨w.heap.size, 0, none⟩), .int .i64 (cl a0), .int .i64 (cl a1), .int .i64 a2] 40)).alloc (.cells #[.int .i32 0, .int .u32 0, .map none, .map none, .int .i64 0, .int .i64 0] 80)).alloc
        (.cells #[.pointer (some ⟨w.heap.size + 1 + 1, 0, none⟩), .int .i64 (cl a0), .int .i64 (cl a1), .int .i64 a2] 40)) (w.heap.size + 1) (w.heap.size + 1 + 1 + 1) (by omega) (by
          show ((((w.heap.push _).push _).push _).push _)[w.heap.size + 1]? = _
          simp only [Array.getElem?_push, Array.size_push]
          rw [if_neg (by omega), if_neg (by omega), if_pos trivial]) (by
          show ((((w.heap.push _).push _).push _).push _)[w.heap.size + 1 + 1 + 1]? = _
          simp only [Array.getElem?_push, Array.size_push]
          rw [if_pos trivial])
  have he2 := ptr_ne (tp := 38) (te := 80) Yba.underlying38 info80 ((((w.alloc (.cells #[.int .i32 0, .int .u32 0, .map none, .map none, .int .i64 0, .int .i64 0] 80)).alloc
        (.cells #[.pointer (some ⟨w.heap.size, 0, none⟩), .int .i64 (cl a0), .int .i64 (cl a1), .int .i64 a2] 40)).alloc (.cells #[.int .i32 0, .int .u32 0, .map none, .map none, .int .i64 0, .int .i64 0] 80)).alloc
        (.cells #[.pointer (some ⟨w.heap.size + 1 + 1, 0, none⟩), .int .i64 (cl a0), .int .i64 (cl a1), .int .i64 a2] 40)) (w.heap.size) (w.heap.size + 1 + 1) (by omega) (by
          show ((((w.heap.push _).push _).push _).push _)[w.heap.size]? = _
          simp only [Array.getElem?_push, Array.size_push]
          rw [if_neg (by omega), if_neg (by omega), if_neg (by omega), if_pos trivial]) (by
          show ((((w.heap.push _).push _).push _).push _)[w.heap.size + 1 + 1]? = _
          simp only [Array.getElem?_push, Array.size_push]
          rw [if_neg (by omega), if_pos trivial])
  go_enter Yba.func4, Yba.ntmps4
  go_wp2_with (go_at_call 10; refine (newfs_str _ _ _ _).mono ?_; rintro e w' ⟨rfl, rfl⟩)
  go_quiet (fail)
  go_wp2
  go_quiet ((go_at_call 9; exact clamp_later _ _ _ _))
  go_wp2
  go_ret
  exact ⟨rfl, grown_drewN (grown_drewN (((((Grown.refl _).alloc _ _).alloc _ _).alloc _ _).alloc _ _) _) _⟩
end Go.Proofs.Ybulkctyw
