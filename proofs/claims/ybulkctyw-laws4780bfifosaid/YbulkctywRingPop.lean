/-
  The walk of (*Buffer[int]).PopFront.
-/
import Derived.Test.YbulkctywRingPush
namespace Go.Proofs.Ybulkctyw
open Go.RowKit

theorem pop_none (p : Nat) (o : Option Nat) (c h : Nat) (w : World) (hR : Rg w p o c h []) :
    Calls Yba.prog 12 #[.pointer (some ⟨p, 0, none⟩)] w fun e w' => e = .returned (.tuple #[.int .i64 0, .bool false]) ∧ w' = w := by
  have h2 : w.cell? ⟨p, 2, none⟩ = some (.int .i64 0) := by simp [World.cell?, hR.1]
  clear hR
  go_enter Yba.func12, Yba.ntmps12
  go_wp2
  go_ret2
  exact ⟨rfl, rfl⟩

/-- What the three stores of PopFront make of the ring. -/
theorem pop_world {w : World} {p g c h : Nat} {v : Int} {q : List Int} (hR : Rg w p (some g) c h (v :: q)) :
    Rg (((w.setCell ⟨g, h, none⟩ (.int .i64 0)).setCell ⟨p, 1, none⟩ (.int .i64 (((h + 1) % c : Nat) : Int))).setCell ⟨p, 2, none⟩ (.int .i64 (q.length : Int))) p (some g) c ((h + 1) % c) q ∧
      KeptBut (fun j => j = p ∨ j = g) w (((w.setCell ⟨g, h, none⟩ (.int .i64 0)).setCell ⟨p, 1, none⟩ (.int .i64 (((h + 1) % c : Nat) : Int))).setCell ⟨p, 2, none⟩ (.int .i64 (q.length : Int))) := by
  obtain ⟨hp, ⟨h1, _⟩ | ⟨g', hg', hgp, hh, hqc, hc16, hm, cs, hg, hcl, hcs⟩⟩ := hR
  · cases h1
  · cases hg'
    have e1 : (w.setCell ⟨g, h, none⟩ (.int .i64 0)).heap[p]? = some (.cells #[.slice (some ⟨g, 0, none⟩) c c, .int .i64 (h : Int), .int .i64 (((v :: q).length : Nat) : Int)] 44 (0, 0)) := by
      rw [Below.heap_setCell _ _ _ _ (fun e => hgp e.symm)]; exact hp
    have e2 := heap_setCell_same _ p 1 _ 44 (.int .i64 (((h + 1) % c : Nat) : Int)) e1
    have e3 := heap_setCell_same _ p 2 _ 44 (.int .i64 (q.length : Int)) e2
    simp only [List.length_cons] at hqc
    refine ⟨⟨?_, .inr ⟨g, rfl, hgp, Nat.mod_lt _ (by omega), by omega, hc16, hm, cs.set h (.int .i64 0), ?_, by simpa using hcl, ?_⟩⟩, ?_⟩
    · rw [e3]; simp
    · rw [Below.heap_setCell _ _ _ _ (by show g ≠ p; exact hgp), Below.heap_setCell _ _ _ _ (by show g ≠ p; exact hgp), heap_setCell_same w g _ _ 3 (.int .i64 0) hg]
      simp
    · intro i hi
      have e : ((h + 1) % c + i) % c = (h + (i + 1)) % c := by
        rw [Nat.mod_add_mod]
        congr 1
        omega
      have hne : h ≠ (h + (i + 1)) % c := by
        intro e2
        rcases mod_two (show h + (i + 1) < 2 * c by omega) with ⟨a1, a2⟩ | ⟨a1, a2⟩ <;> omega
      rw [e, List.getElem?_set_ne hne, hcs (i + 1) (by simp; omega)]
      rfl
    · exact ((KeptBut.setCell (S := fun j => j = p ∨ j = g) w ⟨g, _, none⟩ _ (.inr rfl)).trans (KeptBut.setCell (S := fun j => j = p ∨ j = g) _ ⟨p, 1, none⟩ _ (.inl rfl))).trans (KeptBut.setCell (S := fun j => j = p ∨ j = g) _ ⟨p, 2, none⟩ _ (.inl rfl))

/-- How many slots there are behind a pop that leaves n values. -/
def popCap (c n : Nat) : Nat := if 16 < c ∧ n ≤ c / 4 then c / 2 else c

theorem KeptBut.later {S : Nat → Prop} {w w' : World} {k n : Nat} (h : KeptBut S (w.drewN k) w') : KeptBut S w (w'.drew.drewN n) := ⟨h.os, h.tape, h.output, h.size, h.block⟩

theorem KeptBut.later2 {S : Nat → Prop} {w w' : World} {k n : Nat} (h : KeptBut S (w.drewN k) w') : KeptBut S w (w'.drewN n) := ⟨h.os, h.tape, h.output, h.size, h.block⟩

set_option maxHeartbeats 1000000 in
theorem pop_some (p g c h : Nat) (v : Int) (q : List Int) (w : World) (hR : Rg w p (some g) c h (v :: q)) :
    Calls Yba.prog 12 #[.pointer (some ⟨p, 0, none⟩)] w fun e w' => e = .returned (.tuple #[.int .i64 v, .bool true]) ∧
      ∃ o' h', Rg w' p o' (popCap c q.length) h' q ∧ (o' = some g ∨ o' = some w.heap.size) ∧ KeptBut (fun j => j = p ∨ j = g) w w' := by
  have hfin := fun k => pop_world (w := w.drewN k) hR
  obtain ⟨hp, ⟨h1, _⟩ | ⟨g', hg', hgp, hh, hqc, hc16, ⟨m, hm, hm40⟩, cs, hg, hcl, hcs⟩⟩ := hR
  · cases h1
  · cases hg'
    have hcm : c ≤ 2 ^ 40 := by rw [hm]; exact Nat.pow_le_pow_right (by omega) hm40
    have HF : Hid (∀ k, Rg ((((w.drewN k).setCell ⟨g, h, none⟩ (.int .i64 0)).setCell ⟨p, 1, none⟩ (.int .i64 (((h + 1) % c : Nat) : Int))).setCell ⟨p, 2, none⟩ (.int .i64 (q.length : Int))) p (some g) c ((h + 1) % c) q ∧
      KeptBut (fun j => j = p ∨ j = g) (w.drewN k) ((((w.drewN k).setCell ⟨g, h, none⟩ (.int .i64 0)).setCell ⟨p, 1, none⟩ (.int .i64 (((h + 1) % c : Nat) : Int))).setCell ⟨p, 2, none⟩ (.int .i64 (q.length : Int)))) := hfin
    clear hfin
    have h0 : w.cell? ⟨p, 0, none⟩ = some (.slice (some ⟨g, 0, none⟩) c c) := by simp [World.cell?, hp]
    have h1 : w.cell? ⟨p, 1, none⟩ = some (.int .i64 (h : Int)) := by simp [World.cell?, hp]
    have h2 : w.cell? ⟨p, 2, none⟩ = some (.int .i64 ((q.length : Int) + 1)) := by simp [World.cell?, hp]
    have f1 : w.frozen? ⟨p, 1, none⟩ = false := by simp [World.frozen?, hp]
    have f2 : w.frozen? ⟨p, 2, none⟩ = false := by simp [World.frozen?, hp]
    have c3 : w.cell? ⟨g, h, none⟩ = some (.int .i64 v) := by
      rw [cell_of_row w g h _ _ _ hg]
      have := hcs 0 (by simp)
      rw [Nat.add_zero, Nat.mod_eq_of_lt hh] at this
      simpa using this
    have f3 : w.frozen? ⟨g, h, none⟩ = false := frozen_of_row w g h _ _ hg
    have hmask := mask_is (x := h + 1) hm hm40 (by omega)
    rw [show (((h + 1 : Nat)) : Int) = (h : Int) + 1 from by omega] at hmask
    generalize (h + 1) % c = k at hmask HF
    simp only [List.length_cons] at hqc
    have hpow : Hid (16 < c → 16 ≤ c / 2 ∧ ∃ m', c / 2 = 2 ^ m' ∧ m' ≤ 40) := by
      intro hc
      have hm5 : 4 < m := (Nat.pow_lt_pow_iff_right (by omega : 1 < 2)).1 (show 2 ^ 4 < 2 ^ m by rw [← hm]; exact hc)
      obtain ⟨m', rfl⟩ : ∃ m', m = m' + 1 := ⟨m - 1, by omega⟩
      have e : c / 2 = 2 ^ m' := by rw [hm, Nat.pow_succ]; omega
      refine ⟨?_, m', e, by omega⟩
      rw [e]
      exact Nat.pow_le_pow_right (by omega : 0 < 2) (show 4 ≤ m' by omega)
    obtain ⟨n, hn⟩ : ∃ n, n = q.length := ⟨_, rfl⟩
    rw [← hn] at h2 hqc HF
    rw [← hn]
    have hcall : ∀ a b, 16 < c → n ≤ c / 4 → Calls Yba.prog 16 #[.pointer (some ⟨p, 0, none⟩), .int .i64 ((c / 2 : Nat) : Int)] (((((w.drewN a).setCell ⟨g, h, none⟩ (.int .i64 0)).setCell ⟨p, 1, none⟩ (.int .i64 (k : Int))).setCell ⟨p, 2, none⟩ (.int .i64 (n : Int))).drewN b) fun e w1 =>
        e = .returned (.tuple #[]) ∧ ∃ o' h', Rg w1 p o' (popCap c n) h' q ∧ (o' = some g ∨ o' = some w.heap.size) ∧ KeptBut (fun j => j = p ∨ j = g) w w1 := by
      intro a b hc hn4
      obtain ⟨a1, a2⟩ := hpow.out hc
      refine (resize_any p (c / 2) (some g) c k q (((((w.drewN a).setCell ⟨g, h, none⟩ (.int .i64 0)).setCell ⟨p, 1, none⟩ (.int .i64 (k : Int))).setCell ⟨p, 2, none⟩ (.int .i64 (n : Int))).drewN b) (HF.out a).1 (by omega) a1 a2).mono ?_
      rintro e w1 ⟨rfl, hR1, hk1⟩
      refine ⟨rfl, some w.heap.size, 0, ?_, .inr rfl, ((HF.out a).2.later2 (n := b)).trans (hk1.mono fun _ _ e => .inl e)⟩
      unfold popCap
      rw [if_pos ⟨hc, hn4⟩]
      have e : (((((w.drewN a).setCell ⟨g, h, none⟩ (.int .i64 0)).setCell ⟨p, 1, none⟩ (.int .i64 (k : Int))).setCell ⟨p, 2, none⟩ (.int .i64 (n : Int))).drewN b).heap.size = w.heap.size := by
        show ((((w.drewN a).setCell ⟨g, h, none⟩ (.int .i64 0)).setCell ⟨p, 1, none⟩ (.int .i64 (k : Int))).setCell ⟨p, 2, none⟩ (.int .i64 (n : Int))).heap.size = _
        rw [World.size_setCell, World.size_setCell, World.size_setCell]
        rfl
      rw [e] at hR1
      exact hR1
    have HC : Hid (∀ a b, 16 < c → n ≤ c / 4 → Calls Yba.prog 16 #[.pointer (some ⟨p, 0, none⟩), .int .i64 ((c / 2 : Nat) : Int)] (((((w.drewN a).setCell ⟨g, h, none⟩ (.int .i64 0)).setCell ⟨p, 1, none⟩ (.int .i64 (k : Int))).setCell ⟨p, 2, none⟩ (.int .i64 (n : Int))).drewN b) fun e w1 =>
        e = .returned (.tuple #[]) ∧ ∃ o' h', Rg w1 p o' (popCap c n) h' q ∧ (o' = some g ∨ o' = some w.heap.size) ∧ KeptBut (fun j => j = p ∨ j = g) w w1) := hcall
    clear hn hcall hpow
    have hh0 : (0 : Int) ≤ (h : Int) := by omega
    have hh1 : (h : Int) < (c : Int) := by omega
    have hn0 : ((n : Int) + 1 == 0) = false := by simp; omega
    have b0 : ∀ j, ((w.drewN j).setCell ⟨g, h, none⟩ (.int .i64 0)).cell? ⟨p, 0, none⟩ = some (.slice (some ⟨g, 0, none⟩) c c) := fun j => by
      rw [World.cell?_setCell_other (h := fun e => hgp (by injection e))]; exact h0
    have b1 : ∀ j, ((w.drewN j).setCell ⟨g, h, none⟩ (.int .i64 0)).cell? ⟨p, 1, none⟩ = some (.int .i64 (h : Int)) := fun j => by
      rw [World.cell?_setCell_other (h := fun e => hgp (by injection e))]; exact h1
    have b2 : ∀ j, ((w.drewN j).setCell ⟨g, h, none⟩ (.int .i64 0)).cell? ⟨p, 2, none⟩ = some (.int .i64 ((n : Int) + 1)) := fun j => by
      rw [World.cell?_setCell_other (h := fun e => hgp (by injection e))]; exact h2
    clear hg hm hp hcl hcs
    go_enter Yba.func12, Yba.ntmps12
    go_wp2
    go_quiet (fail)
    obtain ⟨na, hna⟩ : ∃ na, na = nq := ⟨_, rfl⟩
    subst hna
    go_wp2
    go_region
    go_wp2
    go_region
    go_wp2
    by_cases hd : 16 < c
    · have hd2 : decide ((16 : Int) < (c : Int)) = true := by simp; omega
      by_cases hd4 : n ≤ c / 4
      · have hd3 : decide ((n : Int) ≤ (c : Int) / 4) = true := by simp; omega
        go_quiet (fail)
        go_wp2_with fail
        rw [show ((c : Int) / 2) = ((c / 2 : Nat) : Int) from by omega]
        refine (HC.out (na + 1) (1 + nq) hd hd4).mono ?_
        rintro e w1 ⟨rfl, hfin⟩
        clear hd4
        go_wp2
        go_ret2
        exact ⟨rfl, hfin⟩
      · have hd3 : decide ((n : Int) ≤ (c : Int) / 4) = false := by simp; omega
        go_quiet (fail)
        go_wp2
        go_ret2
        refine ⟨rfl, some g, k, ?_, .inl rfl, (HF.out _).2.later⟩
        unfold popCap
        rw [if_neg (by omega)]
        exact (HF.out _).1
    · have hd2 : decide ((16 : Int) < (c : Int)) = false := by simp; omega
      go_quiet (fail)
      go_wp2
      go_ret2
      refine ⟨rfl, some g, k, ?_, .inl rfl, (HF.out _).2.later⟩
      unfold popCap
      rw [if_neg (by omega)]
      exact (HF.out _).1
end Go.Proofs.Ybulkctyw
