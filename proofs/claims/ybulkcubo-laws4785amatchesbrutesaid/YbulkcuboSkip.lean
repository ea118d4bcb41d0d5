/-
  vclog.skipSpace and zzs4785cws: their walks.
-/
import Derived.Test.YbulkcuboRows
import Derived.WalkKit
import Derived.WalkSpells
import Derived.WalkLawsBesides
import Derived.OpenShut
namespace Go.Proofs.Ybulkcubo
open Go.RowKit

theorem isz5 : (Yba.prog.info? 5).map (fun j => j.size) = some 1 := by kernel_rfl

/-- What a slice of integers that came in lets a walk do: an index below its length leads to a cell, and the cell holds the number. -/
theorem row_open {P : Program} {t e : TypeId} (ht : P.underlying t = some (.slice e)) (hi : (P.info? e).map (fun j => j.size) = some 1) {k : IntKind} {w : World} {a : Option Addr} {len cap : Nat} {zs : List Int}
    (h : (a = none ∧ len = 0 ∧ cap = 0 ∧ zs = []) ∨ ∃ x, a = some x ∧ len ≤ cap ∧ cap ≤ maxLen ∧ zs.length = cap ∧ (∀ i, i < zs.length → w.cell? (x.add i) = some (.int k (zs.getD i 0))) ∧ ∀ n ∈ zs, (Lit.int k n).wf = true) :
    ∃ b off : Nat, (∀ i : Nat, i < len → w.cell? ⟨b, off + i, none⟩ = some (.int k (zs.getD i 0))) ∧
      ∀ (i : Nat) (W : World), i < len → Sem.run P (Instr.indexAt t (.slice a len cap) (.int .i64 (i : Int))) W = .ok (.pointer (some ⟨b, off + i, none⟩)) W := by
  rcases h with ⟨rfl, rfl, rfl, rfl⟩ | ⟨x, rfl, hl, hm, hz, hc, hw⟩
  · exact ⟨0, 0, fun i hi => absurd hi (by omega), fun i _ hi => absurd hi (by omega)⟩
  · by_cases h0 : len = 0
    · subst h0
      exact ⟨0, 0, fun i hi => absurd hi (by omega), fun i _ hi => absurd hi (by omega)⟩
    · obtain ⟨b, off, rfl, hc'⟩ := ints_at hc (by omega)
      refine ⟨b, off, fun i hi => hc' i (by omega), fun i W hi' => ?_⟩
      have hel : P.elem t = e := by simp [Program.elem, ht]
      rw [run_indexAt_slice W t ⟨b, off, none⟩ len cap .i64 i (by rw [hel]; exact ht)]
      rcases hj : P.info? e with _ | j
      · rw [hj] at hi; simp at hi
      · rw [hj] at hi
        simp at hi
        rw [if_pos ⟨by omega, by omega⟩, hel]
        simp [sizeOf, typeInfo, hj, hi, Result.andThen, Addr.add]

/-- JSON white space. -/
def ws (z : Int) : Bool := decide (z = 32 ∨ z = 9 ∨ z = 10 ∨ z = 13)

theorem ws_at {z : Int} {zs : List Int} {k : Nat} {b : Bool} (h : z = zs.getD k 0) (e : ws z = b) : ws (zs.getD k 0) = b := by rw [← h]; exact e
theorem ret_int {k : IntKind} {a b : Int} (h : a = b) : Ending.returned (.int k a) = .returned (.int k b) := by rw [h]
theorem ret_bool {a b : Bool} (h : a = b) : Ending.returned (.bool a) = .returned (.bool b) := by rw [h]

/-- A start at or past the end. -/
theorem skip_beyond (a : Option Addr) (len cap : Nat) (i : Int) (w : World) (_hl : len ≤ 1024) (h : (len : Int) ≤ i) :
    Calls Yba.prog 8 #[.slice a len cap, .int .i64 i] w fun e w' => e = .returned (.int .i64 i) ∧ w' = w := by
  have hd : decide (i < (len : Int)) = false := by simp; omega
  go_enter Yba.func8, Yba.ntmps8
  go_wp2
  refine wp_loop_rounds 1 ?_
  rw [rounds_succ]
  go_wp2
  go_ret
  exact ⟨rfl, rfl⟩

theorem ws_any (z : Int) (w : World) : Calls Yba.prog 9 #[.int .u8 z] w fun e w' => e = .returned (.bool (ws z)) ∧ w' = w := by
  by_cases h1 : z = 32
  · subst h1
    go_enter Yba.func9, Yba.ntmps9
    go_wp2
    go_ret
    exact ⟨ret_bool (by decide), rfl⟩
  · by_cases h2 : z = 9
    · subst h2
      go_enter Yba.func9, Yba.ntmps9
      go_wp2
      go_ret
      exact ⟨ret_bool (by decide), rfl⟩
    · by_cases h3 : z = 10
      · subst h3
        go_enter Yba.func9, Yba.ntmps9
        go_wp2
        go_ret
        exact ⟨ret_bool (by decide), rfl⟩
      · by_cases h4 : z = 13
        · subst h4
          go_enter Yba.func9, Yba.ntmps9
          go_wp2
          go_ret
          exact ⟨ret_bool (by decide), rfl⟩
        · have e0 : ws z = false := by simp [ws, h1, h2, h3, h4]
          have e1 : (z == 32) = false := by simpa using h1
          have e2 : (z == 9) = false := by simpa using h2
          have e3 : (z == 10) = false := by simpa using h3
          have e4 : (z == 13) = false := by simpa using h4
          have E0 : Hid (ws z = false) := e0
          clear h1 h2 h3 h4 e0
          go_enter Yba.func9, Yba.ntmps9
          go_wp2
          go_ret
          exact ⟨ret_bool E0.out.symm, rfl⟩

theorem ws_same (z : Int) (w : World) : Calls Yba.prog 9 #[.int .u8 z] w fun e w' => e = .returned (.bool (ws z)) ∧ w = w' :=
  (ws_any z w).mono fun _ _ h => ⟨h.1, h.2.symm⟩

/-- A start inside: the first place from i on whose byte is no white space, or the end. -/
theorem skip_inside (a : Option Addr) (len cap b off : Nat) (zs : List Int) (i : Nat) (w : World) (hl : len ≤ 1024) (hi : i < len)
    (hc : ∀ i : Nat, i < len → w.cell? ⟨b, off + i, none⟩ = some (.int .u8 (zs.getD i 0)))
    (hx : ∀ (i : Nat) (W : World), i < len → Sem.run Yba.prog (Instr.indexAt 47 (.slice a len cap) (.int .i64 (i : Int))) W = .ok (.pointer (some ⟨b, off + i, none⟩)) W) :
    Calls Yba.prog 8 #[.slice a len cap, .int .i64 (i : Int)] w fun e w' => ∃ r : Nat, e = .returned (.int .i64 (r : Int)) ∧ w' = w ∧ i ≤ r ∧ r ≤ len ∧ (∀ j, i ≤ j → j < r → ws (zs.getD j 0) = true) ∧ (r < len → ws (zs.getD r 0) = false) := by
  go_enter Yba.func8, Yba.ntmps8
  go_wp2
  go_loop [1] (fun s1 => ∃ k : Nat, s1 = .int .i64 k ∧ i ≤ k ∧ k ≤ len ∧ ∀ j, i ≤ j → j < k → ws (zs.getD j 0) = true) (fun s1 => len - (intOf s1).toNat)
  case atStart => exact ⟨i, rfl, Nat.le_refl _, by omega, fun j h1 h2 => absurd h1 (by omega)⟩
  case round =>
    obtain ⟨k, rfl, hik, hkl, hw⟩ := hrel
    have HW : Hid (∀ j, i ≤ j → j < k → ws (zs.getD j 0) = true) := hw
    clear hw
    by_cases hlt : k < len
    · have hd : decide ((k : Int) < (len : Int)) = true := by simp; omega
      have h1 := hc k hlt
      have h2 := fun W => hx k W hlt
      clear hc hx
      obtain ⟨z, hz⟩ : ∃ z, z = zs.getD k 0 := ⟨_, rfl⟩
      rw [← hz] at h1
      have HZ : Hid (z = zs.getD k 0) := hz
      clear hz
      have hgo : ws z = true → Hid (∀ j, i ≤ j → j < k + 1 → ws (zs.getD j 0) = true) := by
        intro hzw j h1 h2
        by_cases e : j = k
        · rw [e, ← HZ.out]; exact hzw
        · exact HW.out j h1 (by omega)
      by_cases g1 : z = 32
      · subst g1
        have hgo := hgo (by decide)
        go_wp2
        go_round
        case rel => exact ⟨k + 1, by go_num, by omega, by omega, hgo.out⟩
        case measure => simp [intOf]; omega
      · have e1 : (z == 32) = false := by simpa using g1
        by_cases g2 : z = 9
        · subst g2
          have hgo := hgo (by decide)
          clear g1
          go_wp2
          go_round
          case rel => exact ⟨k + 1, by go_num, by omega, by omega, hgo.out⟩
          case measure => simp [intOf]; omega
        · have e2 : (z == 9) = false := by simpa using g2
          by_cases g3 : z = 10
          · subst g3
            have hgo := hgo (by decide)
            clear g1 g2
            go_wp2
            go_round
            case rel => exact ⟨k + 1, by go_num, by omega, by omega, hgo.out⟩
            case measure => simp [intOf]; omega
          · have e3 : (z == 10) = false := by simpa using g3
            by_cases g4 : z = 13
            · subst g4
              have hgo := hgo (by decide)
              clear g1 g2 g3
              go_wp2
              go_round
              case rel => exact ⟨k + 1, by go_num, by omega, by omega, hgo.out⟩
              case measure => simp [intOf]; omega
            · have e4 : (z == 13) = false := by simpa using g4
              have E0 : Hid (ws z = false) := by simp [Hid, ws, g1, g2, g3, g4]
              clear g1 g2 g3 g4 hgo
              go_wp2
              go_ret
              exact ⟨k, rfl, rfl, hik, hkl, HW.out, fun _ => ws_at HZ.out E0.out⟩
    · have hd : decide ((k : Int) < (len : Int)) = false := by simp; omega
      clear hc hx
      go_wp2
      go_ret
      exact ⟨k, rfl, rfl, hik, hkl, HW.out, fun h => absurd h hlt⟩

theorem beyond_walk (a : Option Addr) (len cap : Nat) (i : Int) (w : World) :
    Calls Yba.prog 5 #[.slice a len cap, .int .i64 i] w fun e w' => e = .returned (.bool true) ∧ Below w.heap.size w w' := by
  by_cases h : len ≤ 1024
  · by_cases h2 : i < (len : Int)
    · go_enter Yba.func5, Yba.ntmps5
      go_wp2
      go_ret
      exact ⟨rfl, Below.refl _ _⟩
    · go_enter Yba.func5, Yba.ntmps5
      go_wp2_with (go_at_call 8; refine (skip_beyond a len cap i _ h (by omega)).mono ?_; rintro e w' ⟨rfl, rfl⟩)
      go_ret
      exact ⟨rfl, Below.refl _ _⟩
  · go_enter Yba.func5, Yba.ntmps5
    go_wp2
    go_ret
    exact ⟨rfl, Below.refl _ _⟩

theorem spec_walk (a : Option Addr) (len cap b off : Nat) (zs : List Int) (k : Int) (w : World) (hk : (Lit.int .u64 k).wf = true)
    (hc : ∀ i : Nat, i < len → w.cell? ⟨b, off + i, none⟩ = some (.int .u8 (zs.getD i 0)))
    (hx : ∀ (i : Nat) (W : World), i < len → Sem.run Yba.prog (Instr.indexAt 47 (.slice a len cap) (.int .i64 (i : Int))) W = .ok (.pointer (some ⟨b, off + i, none⟩)) W) :
    Calls Yba.prog 4 #[.slice a len cap, .int .u64 k] w fun e w' => e = .returned (.bool true) ∧ Below w.heap.size w w' := by
  obtain ⟨hk0, hk1⟩ := bounds_u64 hk
  by_cases h : len ≤ 1024
  · obtain ⟨n, hn⟩ : ∃ n : Nat, k % ((len : Int) + 3) = (n : Int) := ⟨(k % ((len : Int) + 3)).toNat, by have := Int.emod_nonneg k (show ((len : Int) + 3) ≠ 0 by omega); omega⟩
    have hnl : n < len + 3 := by have := Int.emod_lt_of_pos k (show (0 : Int) < (len : Int) + 3 by omega); omega
    by_cases hin : n < len
    · have hcall := skip_inside a len cap b off zs n w h hin hc hx
      have HC : Hid (Calls Yba.prog 8 #[.slice a len cap, .int .i64 (n : Int)] w fun e w' => ∃ r : Nat, e = .returned (.int .i64 (r : Int)) ∧ w' = w ∧ n ≤ r ∧ r ≤ len ∧ (∀ j, n ≤ j → j < r → ws (zs.getD j 0) = true) ∧ (r < len → ws (zs.getD r 0) = false)) := hcall
      clear hcall
      go_enter Yba.func4, Yba.ntmps4
      go_wp2_with fail
      refine HC.out.mono ?_
      rintro e w' ⟨r, rfl, hw, hnr, hrl, hall, hend⟩
      obtain rfl : w = w' := hw.symm
      have HA : Hid (∀ j, n ≤ j → j < r → ws (zs.getD j 0) = true) := hall
      have HE : Hid (r < len → ws (zs.getD r 0) = false) := hend
      clear hall hend
      have hd1 : decide (len ≤ n) = false := by simp; omega
      have hd2 : decide (r < n) = false := by simp; omega
      have hd3 : decide (len < r) = false := by simp; omega
      go_wp2
      go_loopw [7] (fun s7 wr => ∃ j : Nat, s7 = .int .i64 j ∧ n ≤ j ∧ j ≤ r ∧ w = wr) (fun s7 _ => r - (intOf s7).toNat)
      case atStart => exact ⟨n, rfl, Nat.le_refl _, hnr, rfl⟩
      case round =>
        obtain ⟨j, rfl, hnj, hjr, rfl⟩ := hrel
        by_cases hlt : j < r
        · have h1 := hc j (by omega)
          have h2 := fun W => hx j W (by omega)
          have h3 := HA.out j hnj hlt
          generalize zs.getD j 0 = z at h1 h3
          clear hc hx
          go_wp2_with (go_at_call 9; refine (ws_same _ _).mono ?_; rintro e w' ⟨rfl, rfl⟩)
          go_roundw
          case rel => exact ⟨j + 1, by go_num, by omega, by omega, trivial⟩
          case measure => simp [intOf]; omega
        · by_cases hr : r < len
          · have h1 := hc r hr
            have h2 := fun W => hx r W hr
            have h3 := HE.out hr
            generalize zs.getD r 0 = z at h1 h3
            clear hc hx
            go_wp2_with (go_at_call 9; refine (ws_same _ _).mono ?_; rintro e w' ⟨rfl, rfl⟩)
            go_ret
            exact ⟨rfl, Below.refl _ _⟩
          · clear hc hx
            go_wp2
            go_ret
            exact ⟨rfl, Below.refl _ _⟩
    · clear hc hx
      go_enter Yba.func4, Yba.ntmps4
      go_wp2_with (go_at_call 8; refine (skip_beyond a len cap (n : Int) _ h (by omega)).mono ?_; rintro e w' ⟨rfl, rfl⟩)
      go_ret
      exact ⟨rfl, Below.refl _ _⟩
  · clear hc hx
    go_enter Yba.func4, Yba.ntmps4
    go_wp2
    go_ret
    exact ⟨rfl, Below.refl _ _⟩
end Go.Proofs.Ybulkcubo
