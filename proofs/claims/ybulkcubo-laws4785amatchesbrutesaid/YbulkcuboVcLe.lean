/-
  The walk of vclog.zzs4785ale: one clock is at most another, entry by entry.
-/
import Derived.Test.YbulkcuboVcMath
import Derived.Test.YbulkcuboSkip
import Derived.Deep.QuietTactic
import Derived.BigQuiet
import Derived.OneCell
namespace Go.Proofs.Ybulkcubo
open Go.RowKit

/-- A clock as a row of cells. -/
def rowV (nh : Nat) (u : Vc) : List Value := (List.range nh).map fun o => .int .u64 (u o : Int)
theorem rowV_length (nh : Nat) (u : Vc) : (rowV nh u).length = nh := by simp [rowV]
theorem rowV_at {nh : Nat} (u : Vc) {o : Nat} (h : o < nh) : (rowV nh u)[o]? = some (.int .u64 (u o : Int)) := by simp [rowV, h]

def leB (u v : Vc) : Nat → Bool
  | 0 => true
  | n + 1 => leB u v n && decide (u n ≤ v n)
theorem leB_iff (u v : Vc) : ∀ n, leB u v n = true ↔ leV n u v
  | 0 => by simp [leB, leV]
  | n + 1 => by
    simp only [leB, Bool.and_eq_true, leB_iff u v n, decide_eq_true_eq]
    constructor
    · rintro ⟨h1, h2⟩ o ho
      by_cases e : o = n
      · subst e; exact h2
      · exact h1 o (by omega)
    · intro h
      exact ⟨fun o ho => h o (by omega), h n (by omega)⟩

theorem leB_succ {u v : Vc} {n : Nat} (h : leB u v n = true) (h2 : u n ≤ v n) : leB u v (n + 1) = true := by simp [leB, h, h2]
theorem leB_false {u v : Vc} {n k : Nat} (hk : k < n) (h : v k < u k) : leB u v n = false := by
  cases e : leB u v n
  · rfl
  · have := (leB_iff u v n).1 e k hk; omega

/-- Block g holds the clock u. -/
def At (w : World) (g nh : Nat) (u : Vc) : Prop := w.heap[g]? = some (.cells (rowV nh u).toArray 29 (0, 0))

theorem At.cell {w : World} {g nh : Nat} {u : Vc} (h : At w g nh u) {o : Nat} (ho : o < nh) : w.cell? ⟨g, o, none⟩ = some (.int .u64 (u o : Int)) := by
  rw [cell_of_row w g o _ _ _ h]
  simpa using rowV_at u ho

theorem le_any (ga gb nh ca cb : Nat) (u v : Vc) (w : World) (hu : At w ga nh u) (hv : At w gb nh v) (hn : nh ≤ 1000) :
    Calls Yba.prog 7 #[.slice (some ⟨ga, 0, none⟩) nh ca, .slice (some ⟨gb, 0, none⟩) nh cb] w fun e w' => e = .returned (.bool (leB u v nh)) ∧ ∃ m, w' = w.drewN m := by
  go_enter Yba.func7, Yba.ntmps7
  go_wp2
  go_loopw [5] (fun s5 wr => ∃ k m : Nat, s5 = .int .i64 k ∧ k ≤ nh ∧ leB u v k = true ∧ wr = w.drewN m) (fun s5 _ => nh - (intOf s5).toNat)
  case atStart => exact ⟨0, 0, rfl, Nat.zero_le _, rfl, rfl⟩
  case round =>
    obtain ⟨k, m, rfl, hk, hle, rfl⟩ := hrel
    have HL : Hid (leB u v k = true) := hle
    clear hle
    by_cases hlt : k < nh
    · have h1 := hu.cell hlt
      have h2 := hv.cell hlt
      have hk0 : (0 : Int) ≤ (k : Int) := by omega
      have hk1 : (k : Int) < (nh : Int) := by omega
      generalize hx : u k = x at h1
      generalize hy : v k = y at h2
      have HX : Hid (u k = x) := hx
      have HY : Hid (v k = y) := hy
      clear hx hy hu hv
      by_cases hxy : y < x
      · have hd : decide ((y : Int) < (x : Int)) = true := by simp; omega
        go_wp2
        go_quiet (fail)
        go_wp2
        go_ret
        exact ⟨ret_bool (leB_false hlt (by rw [HX.out, HY.out]; exact hxy)).symm, m + nq, by rw [World.drewN_drewN]⟩
      · have hd : decide ((y : Int) < (x : Int)) = false := by simp; omega
        go_wp2
        go_quiet (fail)
        go_wp2
        go_roundw
        case rel => exact ⟨k + 1, m + nq, by go_num, by omega, leB_succ HL.out (by rw [HX.out, HY.out]; omega), rfl⟩
        case measure => simp [intOf]; omega
    · obtain rfl : k = nh := by omega
      clear hu hv
      go_wp2
      go_ret
      exact ⟨ret_bool HL.out.symm, m, rfl⟩
end Go.Proofs.Ybulkcubo
