/-
  The walk of ring.LawS4780BCap.
-/
import Derived.Test.YbulkctywRingOpen
namespace Go.Proofs.Ybulkctyw
open Go.RowKit

theorem capval {a b : Int} (h : a = b) : Value.int .i64 a = .int .i64 b := by rw [h]

/-- The loop's state: k steps done; the ring holds q. -/
def CapSt (w0 : World) (k : Nat) (wr : World) (o : Option Nat) (c h : Nat) (q : List Int) : Prop :=
  Rg wr w0.heap.size o c h q ∧ (∀ g, o = some g → w0.heap.size < g) ∧ q.length ≤ k ∧ c ≤ 2 * k + 16 ∧ Below w0.heap.size w0 wr

theorem CapSt.push {w0 wr w1 w2 : World} {k : Nat} {o o' : Option Nat} {c h h' : Nat} {q : List Int} {v : Int} (hs : CapSt w0 k wr o c h q) (h1 : Below wr.heap.size wr w1) (hR : Rg w2 w0.heap.size o' (pushCap c q.length) h' (q ++ [v]))
    (ho : o' = o ∨ o' = some w1.heap.size) (hk : KeptBut (fun j => j = w0.heap.size ∨ o = some j) w1 w2) : CapSt w0 (k + 1) w2 o' (pushCap c q.length) h' (q ++ [v]) := by
  obtain ⟨hR0, hg, hq, hc, hb⟩ := hs
  have hlt := lt_of_block hR0.1
  have hs1 := h1.size
  refine ⟨hR, fun g e => ?_, by simp; omega, ?_, ?_⟩
  · rcases ho with rfl | rfl
    · exact hg g e
    · injection e with e; omega
  · unfold pushCap
    split <;> omega
  · refine hk.below (hb.trans (h1.mono (by omega))) (by omega) ?_
    rintro j hj (h | h)
    · omega
    · have := hg j h; omega

theorem CapSt.pop {w0 wr w1 w2 : World} {k : Nat} {g : Nat} {o' : Option Nat} {c h h' : Nat} {q : List Int} {v : Int} (hs : CapSt w0 k wr (some g) c h (v :: q)) (h1 : Below wr.heap.size wr w1) (hR : Rg w2 w0.heap.size o' (popCap c q.length) h' q)
    (ho : o' = some g ∨ o' = some w1.heap.size) (hk : KeptBut (fun j => j = w0.heap.size ∨ j = g) w1 w2) : CapSt w0 (k + 1) w2 o' (popCap c q.length) h' q := by
  obtain ⟨hR0, hg, hq, hc, hb⟩ := hs
  have hlt := lt_of_block hR0.1
  have hs1 := h1.size
  have hgg := hg g rfl
  simp only [List.length_cons] at hq
  refine ⟨hR, fun g' e => ?_, by omega, ?_, ?_⟩
  · rcases ho with rfl | rfl
    · injection e with e; omega
    · injection e with e; omega
  · unfold popCap
    split <;> omega
  · refine hk.below (hb.trans (h1.mono (by omega))) (by omega) ?_
    rintro j hj (h | h) <;> omega

theorem CapSt.stay {w0 wr w1 : World} {k : Nat} {o : Option Nat} {c h : Nat} {q : List Int} (hs : CapSt w0 k wr o c h q) (h1 : Below wr.heap.size wr w1) : CapSt w0 (k + 1) w1 o c h q := by
  obtain ⟨hR0, hg, hq, hc, hb⟩ := hs
  have hlt := lt_of_block hR0.1
  exact ⟨hR0.same (h1.block _ hlt) (fun g e => h1.block _ (hR0.lt g e)), hg, by omega, by omega, hb.trans (h1.mono (by omega))⟩

set_option maxHeartbeats 2000000 in
theorem cap_walk (a : Option Addr) (len cap b off : Nat) (OP AA : Nat → Int) (w : World) (hl : len ≤ 1024) (hS : Steps w a len cap b off OP AA) :
    Calls Yba.prog 6 #[.slice a len cap] w fun e w' => e = .returned (.bool true) ∧ Below w.heap.size w w' := by
  obtain ⟨hcell, hidx⟩ := hS
  go_enter Yba.func6, Yba.ntmps6
  go_wp2
  go_loopw [4, 5, 6] (fun s4 s5 s6 wr => ∃ (k : Nat) (o : Option Nat) (c h : Nat) (q : List Int), k ≤ len ∧ s6 = .int .i64 k ∧ s4 = .int .i64 q.length ∧ s5 = .int .i64 c ∧ CapSt w k wr o c h q) (fun _ _ s6 _ => len - (intOf s6).toNat)
  case atStart => exact ⟨0, none, 0, 0, [], Nat.zero_le _, rfl, rfl, rfl, Rg.start w, fun _ h => (by cases h), Nat.le_refl _, by omega, (Below.refl _ _).alloc (Nat.le_refl _) _⟩
  case round =>
    obtain ⟨k, o, c, h, q, hk, rfl, rfl, rfl, hst⟩ := hrel
    by_cases hlt : k < len
    · obtain ⟨hb, e1, e2, hw⟩ := hcell k hlt
      have hi := fun W => hidx k W hlt
      generalize OP k = op at e1 hw
      generalize AA k = v at e2
      obtain ⟨hz1, hz2⟩ := bounds_u8 hw
      have r1 : wr.cell? ⟨b, off + k * 2, none⟩ = some (.int .u8 op) := (hst.2.2.2.2.cell (p := ⟨b, off + k * 2, none⟩) hb).trans e1
      have r2 : wr.cell? ⟨b, off + k * 2 + 1, none⟩ = some (.int .i64 v) := (hst.2.2.2.2.cell (p := ⟨b, off + k * 2 + 1, none⟩) hb).trans e2
      clear e1 e2 hcell hidx hw hk
      have hcc := hst.1.cap
      obtain ⟨hc0, hqc⟩ := hcc
      have hcb := hst.2.2.2.1
      have hqk := hst.2.2.1
      have hsz := lt_of_block hst.1.1
      by_cases hop : op % 3 = 0
      · cases q with
        | nil =>
          have hop2 : (op % 3 != 0) = false := by simp; omega
          have hst' := hst.stay ((Below.refl _ _).alloc (Nat.le_refl _) (.cells #[.int .u8 op, .int .i64 v] 46))
          have hR := hst'.1
          clear hst hop
          go_wp2_with fail
          refine (pop_none w.heap.size o c h _ hR).mono ?_
          rintro e w2 ⟨rfl, hw2⟩
          rw [← hw2] at hR hst'
          clear hw2
          go_wp2_with (first | (go_at_call 14; refine (cap_any _ _ _ _ _ _ hR).mono ?_; rintro e w' ⟨rfl, rfl⟩) | (go_at_call 13; refine (len_any _ _ _ _ _ _ hR).mono ?_; rintro e w' ⟨rfl, rfl⟩))
          go_roundw
          case rel => exact ⟨k + 1, o, c, h, [], by omega, by go_num, rfl, rfl, hst'⟩
          case measure => simp [intOf]; omega
        | cons x t =>
          have hop2 : (op % 3 != 0) = false := by simp; omega
          obtain ⟨g, rfl⟩ : ∃ g, o = some g := by
            obtain ⟨_, ⟨_, _, _, h1⟩ | ⟨g, h1, _⟩⟩ := hst.1
            · cases h1
            · exact ⟨g, h1⟩
          simp only [List.length_cons] at hqc hqk
          by_cases hd : 16 < c ∧ t.length ≤ c / 4
          · obtain ⟨hd1, hd2⟩ := hd
            have hd4 : (t.length : Int) ≤ (c : Int) / 4 := by omega
            have hC : popCap c t.length = c / 2 := by unfold popCap; rw [if_pos ⟨hd1, hd2⟩]
            go_wp2_with fail
            refine (pop_some w.heap.size g c h x t _ (hst.1.alloc _)).mono ?_
            rintro e w2 ⟨rfl, o', h', hR', ho', hk'⟩
            have hst' := hst.pop ((Below.refl _ _).alloc (Nat.le_refl _) _) hR' ho' hk'
            clear hst ho' hk' r1 r2 hi
            rw [hC] at hR' hst'
            clear hC
            go_wp2_with (first | (go_at_call 14; refine (cap_any _ _ _ _ _ _ hR').mono ?_; rintro e w' ⟨rfl, rfl⟩) | (go_at_call 13; refine (len_any _ _ _ _ _ _ hR').mono ?_; rintro e w' ⟨rfl, rfl⟩))
            go_roundw
            case rel => exact ⟨k + 1, o', c / 2, h', t, by omega, by go_num, rfl, capval (by omega), hst'⟩
            case measure => simp [intOf]; omega
          · have hC : popCap c t.length = c := by unfold popCap; rw [if_neg hd]
            by_cases hd1 : 16 < c
            · have hd4 : ¬ (t.length : Int) ≤ (c : Int) / 4 := by omega
              clear hd
              go_wp2_with fail
              refine (pop_some w.heap.size g c h x t _ (hst.1.alloc _)).mono ?_
              rintro e w2 ⟨rfl, o', h', hR', ho', hk'⟩
              have hst' := hst.pop ((Below.refl _ _).alloc (Nat.le_refl _) _) hR' ho' hk'
              clear hst ho' hk' r1 r2 hi
              rw [hC] at hR' hst'
              clear hC
              go_wp2_with (first | (go_at_call 14; refine (cap_any _ _ _ _ _ _ hR').mono ?_; rintro e w' ⟨rfl, rfl⟩) | (go_at_call 13; refine (len_any _ _ _ _ _ _ hR').mono ?_; rintro e w' ⟨rfl, rfl⟩))
              go_roundw
              case rel => exact ⟨k + 1, o', c, h', t, by omega, by go_num, rfl, rfl, hst'⟩
              case measure => simp [intOf]; omega
            · clear hd
              go_wp2_with fail
              refine (pop_some w.heap.size g c h x t _ (hst.1.alloc _)).mono ?_
              rintro e w2 ⟨rfl, o', h', hR', ho', hk'⟩
              have hst' := hst.pop ((Below.refl _ _).alloc (Nat.le_refl _) _) hR' ho' hk'
              clear hst ho' hk' r1 r2 hi
              rw [hC] at hR' hst'
              clear hC
              go_wp2_with (first | (go_at_call 14; refine (cap_any _ _ _ _ _ _ hR').mono ?_; rintro e w' ⟨rfl, rfl⟩) | (go_at_call 13; refine (len_any _ _ _ _ _ _ hR').mono ?_; rintro e w' ⟨rfl, rfl⟩))
              go_roundw
              case rel => exact ⟨k + 1, o', c, h', t, by omega, by go_num, rfl, rfl, hst'⟩
              case measure => simp [intOf]; omega
      · have hop2 : (op % 3 != 0) = true := by simp; omega
        by_cases hf : q.length = c
        · rcases hc0 with rfl | h16
          · obtain rfl : q = [] := List.eq_nil_of_length_eq_zero hf
            clear hf hqc
            go_wp2_with fail
            refine (push_any w.heap.size o 0 h [] v _ (hst.1.alloc _) (by omega)).mono ?_
            rintro e w2 ⟨rfl, o', h', hR', ho', hk'⟩
            have hst' := hst.push ((Below.refl _ _).alloc (Nat.le_refl _) _) hR' ho' hk'
            have hC : pushCap 0 ([] : List Int).length = 16 := rfl
            clear hst ho' hk' r1 r2 hi
            rw [hC] at hR' hst'
            clear hC
            go_wp2_with (first | (go_at_call 14; refine (cap_any _ _ _ _ _ _ hR').mono ?_; rintro e w' ⟨rfl, rfl⟩) | (go_at_call 13; refine (len_any _ _ _ _ _ _ hR').mono ?_; rintro e w' ⟨rfl, rfl⟩))
            go_roundw
            case rel => exact ⟨k + 1, o', 16, h', [] ++ [v], by omega, by go_num, rfl, rfl, hst'⟩
            case measure => simp [intOf]; omega
          · have hf2 : ((q.length : Int) == (c : Int)) = true := by simp; omega
            have hC : pushCap c q.length = 2 * c := by unfold pushCap; rw [if_pos hf, Nat.max_eq_left (by omega)]
            clear hf
            go_wp2_with fail
            refine (push_any w.heap.size o c h q v _ (hst.1.alloc _) (by omega)).mono ?_
            rintro e w2 ⟨rfl, o', h', hR', ho', hk'⟩
            have hst' := hst.push ((Below.refl _ _).alloc (Nat.le_refl _) _) hR' ho' hk'
            clear hst ho' hk' r1 r2 hi
            rw [hC] at hR' hst'
            clear hC
            go_wp2_with (first | (go_at_call 14; refine (cap_any _ _ _ _ _ _ hR').mono ?_; rintro e w' ⟨rfl, rfl⟩) | (go_at_call 13; refine (len_any _ _ _ _ _ _ hR').mono ?_; rintro e w' ⟨rfl, rfl⟩))
            go_roundw
            case rel => exact ⟨k + 1, o', 2 * c, h', q ++ [v], by omega, by go_num, capval (by simp), capval (by omega), hst'⟩
            case measure => simp [intOf]; omega
        · have hf2 : ((q.length : Int) == (c : Int)) = false := by simp; omega
          have hC : pushCap c q.length = c := by unfold pushCap; rw [if_neg hf]
          go_wp2_with fail
          refine (push_any w.heap.size o c h q v _ (hst.1.alloc _) (by omega)).mono ?_
          rintro e w2 ⟨rfl, o', h', hR', ho', hk'⟩
          have hst' := hst.push ((Below.refl _ _).alloc (Nat.le_refl _) _) hR' ho' hk'
          clear hst ho' hk' r1 r2 hi
          rw [hC] at hR' hst'
          clear hC
          go_wp2_with (first | (go_at_call 14; refine (cap_any _ _ _ _ _ _ hR').mono ?_; rintro e w' ⟨rfl, rfl⟩) | (go_at_call 13; refine (len_any _ _ _ _ _ _ hR').mono ?_; rintro e w' ⟨rfl, rfl⟩))
          go_roundw
          case rel => exact ⟨k + 1, o', c, h', q ++ [v], by omega, by go_num, capval (by simp), rfl, hst'⟩
          case measure => simp [intOf]; omega
    · clear hcell hidx
      go_wp2
      go_ret
      exact ⟨rfl, hst.2.2.2.2⟩

theorem cap_long (a : Option Addr) (len cap : Nat) (w : World) (_h : ¬ len ≤ 1024) :
    Calls Yba.prog 6 #[.slice a len cap] w fun e w' => e = .returned (.bool true) ∧ Below w.heap.size w w' := by
  go_enter Yba.func6, Yba.ntmps6
  go_wp2
  go_ret
  exact ⟨rfl, Below.refl _ _⟩
end Go.Proofs.Ybulkctyw
