/-
  The walk of (*Buffer[int]).PushBack.
-/
import Derived.Test.YbulkctywRingCalls
import Derived.BigRegion
namespace Go.Proofs.Ybulkctyw
open Go.RowKit

theorem kept_drewN (S : Nat → Prop) (w : World) (k : Nat) : KeptBut S w (w.drewN k) := ⟨rfl, rfl, rfl, Nat.le_refl _, fun _ _ _ => rfl⟩

/-- What turns a new block besides turns nothing that was there. -/
theorem KeptBut.new {w w1 w2 : World} {p g : Nat} (h1 : KeptBut (fun j => j = p) w w1) (h2 : KeptBut (fun i => i = p ∨ i = g) w1 w2) (hg : w.heap.size ≤ g) : KeptBut (fun j => j = p) w w2 :=
  ⟨h2.os.trans h1.os, h2.tape.trans h1.tape, h2.output.trans h1.output, Nat.le_trans h1.size h2.size, fun j hj hs =>
    (h2.block j (by have := h1.size; omega) (fun e => e.elim hs (fun e => by omega))).trans (h1.block j hj hs)⟩

theorem mod_two {x c : Nat} (h : x < 2 * c) : (x % c = x ∧ x < c) ∨ (x % c = x - c ∧ c ≤ x) := by
  by_cases h1 : x < c
  · exact .inl ⟨Nat.mod_eq_of_lt h1, h1⟩
  · refine .inr ⟨?_, by omega⟩
    rw [Nat.mod_eq_sub_mod (by omega), Nat.mod_eq_of_lt (by omega)]

/-- What the two stores of PushBack make of the ring. -/
theorem push_world {w : World} {p g c h : Nat} {q : List Int} (v : Int) (hR : Rg w p (some g) c h q) (hroom : q.length < c) :
    Rg ((w.setCell ⟨g, (h + q.length) % c, none⟩ (.int .i64 v)).setCell ⟨p, 2, none⟩ (.int .i64 ((q.length : Int) + 1))) p (some g) c h (q ++ [v]) ∧
      KeptBut (fun j => j = p ∨ j = g) w ((w.setCell ⟨g, (h + q.length) % c, none⟩ (.int .i64 v)).setCell ⟨p, 2, none⟩ (.int .i64 ((q.length : Int) + 1))) := by
  obtain ⟨hp, ⟨h1, _⟩ | ⟨g', hg', hgp, hh, hqc, hc16, hm, cs, hg, hcl, hcs⟩⟩ := hR
  · cases h1
  · cases hg'
    have e1 : (w.setCell ⟨g, (h + q.length) % c, none⟩ (.int .i64 v)).heap[p]? = some (.cells #[.slice (some ⟨g, 0, none⟩) c c, .int .i64 (h : Int), .int .i64 (q.length : Int)] 44 (0, 0)) := by
      rw [Below.heap_setCell _ _ _ _ (fun e => hgp e.symm)]; exact hp
    have e2 := heap_setCell_same _ p 2 _ 44 (.int .i64 ((q.length : Int) + 1)) e1
    refine ⟨⟨?_, .inr ⟨g, rfl, hgp, hh, by simp; omega, hc16, hm, cs.set ((h + q.length) % c) (.int .i64 v), ?_, by simpa using hcl, ?_⟩⟩, ?_⟩
    · rw [e2]; simp
    · rw [Below.heap_setCell _ _ _ _ (by show g ≠ p; exact hgp), heap_setCell_same w g _ _ 3 (.int .i64 v) hg]
      simp
    · intro i hi
      simp only [List.length_append, List.length_cons, List.length_nil] at hi
      have hlt : (h + q.length) % c < cs.length := by rw [hcl]; exact Nat.mod_lt _ (by omega)
      by_cases e : i = q.length
      · subst e
        rw [List.getElem?_set_self hlt]
        simp
      · have hne : (h + q.length) % c ≠ (h + i) % c := by
          intro e2
          rcases mod_two (show h + q.length < 2 * c by omega) with ⟨a1, a2⟩ | ⟨a1, a2⟩ <;> rcases mod_two (show h + i < 2 * c by omega) with ⟨b1, b2⟩ | ⟨b1, b2⟩ <;> omega
        rw [List.getElem?_set_ne hne, hcs i (by omega)]
        congr 2
        simp only [List.getD_eq_getElem?_getD]
        rw [List.getElem?_append_left (by omega)]
    · exact (KeptBut.setCell (S := fun j => j = p ∨ j = g) w ⟨g, _, none⟩ _ (.inr rfl)).trans (KeptBut.setCell (S := fun j => j = p ∨ j = g) _ ⟨p, 2, none⟩ _ (.inl rfl))

theorem push_room (p g c h : Nat) (q : List Int) (v : Int) (w : World) (hR : Rg w p (some g) c h q) (hroom : q.length < c) :
    Calls Yba.prog 11 #[.pointer (some ⟨p, 0, none⟩), .int .i64 v] w fun e w' => e = .returned (.tuple #[]) ∧ Rg w' p (some g) c h (q ++ [v]) ∧ KeptBut (fun j => j = p ∨ j = g) w w' := by
  have hpost : ∀ k, Rg (((w.drewN k).setCell ⟨g, (h + q.length) % c, none⟩ (.int .i64 v)).setCell ⟨p, 2, none⟩ (.int .i64 ((q.length : Int) + 1))) p (some g) c h (q ++ [v]) ∧
      KeptBut (fun j => j = p ∨ j = g) w (((w.drewN k).setCell ⟨g, (h + q.length) % c, none⟩ (.int .i64 v)).setCell ⟨p, 2, none⟩ (.int .i64 ((q.length : Int) + 1))) := fun k =>
    ⟨(push_world (w := w.drewN k) v hR hroom).1, (kept_drewN _ w k).trans (push_world (w := w.drewN k) v hR hroom).2⟩
  obtain ⟨hp, ⟨h1, _⟩ | ⟨g', hg', hgp, hh, hqc, hc16, ⟨m, hm, hm40⟩, cs, hg, hcl, hcs⟩⟩ := hR
  · cases h1
  · cases hg'
    have hcm : c ≤ 2 ^ 40 := by rw [hm]; exact Nat.pow_le_pow_right (by omega) hm40
    have hpost2 : Hid (∀ k, Rg (((w.drewN k).setCell ⟨g, (h + q.length) % c, none⟩ (.int .i64 v)).setCell ⟨p, 2, none⟩ (.int .i64 ((q.length : Int) + 1))) p (some g) c h (q ++ [v]) ∧
      KeptBut (fun j => j = p ∨ j = g) w (((w.drewN k).setCell ⟨g, (h + q.length) % c, none⟩ (.int .i64 v)).setCell ⟨p, 2, none⟩ (.int .i64 ((q.length : Int) + 1)))) := hpost
    clear hpost
    have h0 : w.cell? ⟨p, 0, none⟩ = some (.slice (some ⟨g, 0, none⟩) c c) := by simp [World.cell?, hp]
    have h1 : w.cell? ⟨p, 1, none⟩ = some (.int .i64 (h : Int)) := by simp [World.cell?, hp]
    have h2 : w.cell? ⟨p, 2, none⟩ = some (.int .i64 (q.length : Int)) := by simp [World.cell?, hp]
    have f2 : w.frozen? ⟨p, 2, none⟩ = false := by simp [World.frozen?, hp]
    have hmask := mask_is (x := h + q.length) hm hm40 (by omega)
    rw [show (((h + q.length : Nat)) : Int) = (h : Int) + (q.length : Int) from by omega] at hmask
    have hkc : (h + q.length) % c < c := Nat.mod_lt _ (by omega)
    generalize (h + q.length) % c = k at hmask hpost2 hkc
    generalize q.length = n at h2 hroom hqc hmask hpost2
    have hkc2 : (k : Int) < (c : Int) := by omega
    have hk0 : (0 : Int) ≤ (k : Int) := by omega
    have c3 : ∃ u, w.cell? ⟨g, k, none⟩ = some u := by
      rw [cell_of_row w g k _ _ _ hg]
      exact ⟨cs[k]'(by omega), by simp⟩
    obtain ⟨u, c3⟩ := c3
    have f3 : w.frozen? ⟨g, k, none⟩ = false := frozen_of_row w g k _ _ hg
    have hne : ((n : Int) == (c : Int)) = false := by simp; omega
    have hafter : ∀ j, ((w.drewN j).setCell ⟨g, k, none⟩ (.int .i64 v)).cell? ⟨p, 2, none⟩ = some (.int .i64 (n : Int)) := fun j => by
      rw [World.cell?_setCell_other (h := fun e => hgp (by injection e))]; exact h2
    clear hg hm hp hcl
    go_enter Yba.func11, Yba.ntmps11
    go_wp2
    go_quiet (fail)
    go_wp2
    go_region
    go_wp2
    go_end0
    exact ⟨rfl, hpost2.out _⟩

/-- What the walk behind the growth asks of the ring. -/
theorem push_facts {w : World} {p g c h : Nat} {q : List Int} (v : Int) (hR : Rg w p (some g) c h q) (hroom : q.length < c) :
    ∃ (k : Nat) (u : Value), w.cell? ⟨p, 0, none⟩ = some (.slice (some ⟨g, 0, none⟩) c c) ∧ w.cell? ⟨p, 1, none⟩ = some (.int .i64 (h : Int)) ∧ w.cell? ⟨p, 2, none⟩ = some (.int .i64 (q.length : Int)) ∧ w.frozen? ⟨p, 2, none⟩ = false ∧
      bits BinOp.and IntKind.i64 ((h : Int) + (q.length : Int)) ((c : Int) - 1) = (k : Int) ∧ (k : Int) < (c : Int) ∧ (0 : Int) ≤ (k : Int) ∧ k < c ∧ w.cell? ⟨g, k, none⟩ = some u ∧ w.frozen? ⟨g, k, none⟩ = false ∧
      (∀ j, ((w.drewN j).setCell ⟨g, k, none⟩ (.int .i64 v)).cell? ⟨p, 2, none⟩ = some (.int .i64 (q.length : Int))) ∧ h < c ∧ c ≤ 2 ^ 40 ∧
      Hid (∀ j, Rg (((w.drewN j).setCell ⟨g, k, none⟩ (.int .i64 v)).setCell ⟨p, 2, none⟩ (.int .i64 ((q.length : Int) + 1))) p (some g) c h (q ++ [v]) ∧
        KeptBut (fun i => i = p ∨ i = g) w (((w.drewN j).setCell ⟨g, k, none⟩ (.int .i64 v)).setCell ⟨p, 2, none⟩ (.int .i64 ((q.length : Int) + 1)))) := by
  have hpost : ∀ j, Rg (((w.drewN j).setCell ⟨g, (h + q.length) % c, none⟩ (.int .i64 v)).setCell ⟨p, 2, none⟩ (.int .i64 ((q.length : Int) + 1))) p (some g) c h (q ++ [v]) ∧
      KeptBut (fun i => i = p ∨ i = g) w (((w.drewN j).setCell ⟨g, (h + q.length) % c, none⟩ (.int .i64 v)).setCell ⟨p, 2, none⟩ (.int .i64 ((q.length : Int) + 1))) := fun j =>
    ⟨(push_world (w := w.drewN j) v hR hroom).1, (kept_drewN _ w j).trans (push_world (w := w.drewN j) v hR hroom).2⟩
  obtain ⟨hp, ⟨h1, _⟩ | ⟨g', hg', hgp, hh, hqc, hc16, ⟨m, hm, hm40⟩, cs, hg, hcl, hcs⟩⟩ := hR
  · cases h1
  · cases hg'
    have hcm : c ≤ 2 ^ 40 := by rw [hm]; exact Nat.pow_le_pow_right (by omega) hm40
    have hmask := mask_is (x := h + q.length) hm hm40 (by omega)
    rw [show (((h + q.length : Nat)) : Int) = (h : Int) + (q.length : Int) from by omega] at hmask
    have hkc : (h + q.length) % c < c := Nat.mod_lt _ (by omega)
    have h2 : w.cell? ⟨p, 2, none⟩ = some (.int .i64 (q.length : Int)) := by simp [World.cell?, hp]
    refine ⟨(h + q.length) % c, cs[(h + q.length) % c]'(by omega), by simp [World.cell?, hp], by simp [World.cell?, hp], h2, by simp [World.frozen?, hp], hmask, by omega, by omega, hkc, ?_, frozen_of_row w g _ _ _ hg, fun j => ?_, hh, hcm, hpost⟩
    · rw [cell_of_row w g _ _ _ _ hg]
      simp
    · rw [World.cell?_setCell_other (h := fun e => hgp (by injection e))]; exact h2

theorem push_full (p g c h : Nat) (q : List Int) (v : Int) (w : World) (hR : Rg w p (some g) c h q) (hfull : q.length = c) (hc : c ≤ 2 ^ 30) :
    Calls Yba.prog 11 #[.pointer (some ⟨p, 0, none⟩), .int .i64 v] w fun e w' => e = .returned (.tuple #[]) ∧ (∃ h', Rg w' p (some w.heap.size) (2 * c) h' (q ++ [v])) ∧ KeptBut (fun j => j = p) w w' := by
  obtain ⟨s, hs⟩ : ∃ s, s = 2 * c := ⟨_, rfl⟩
  have hc16 : 16 ≤ c ∧ (∃ m, s = 2 ^ m ∧ m ≤ 40) := by
    obtain ⟨hp, ⟨h1, _⟩ | ⟨g', hg', hgp, hh, hqc, hc16, ⟨m, hm, hm40⟩, r⟩⟩ := hR
    · cases h1
    · refine ⟨hc16, m + 1, by rw [hs, hm, Nat.pow_succ]; omega, ?_⟩
      have : 2 ^ m < 2 ^ 31 := by omega
      have := (Nat.pow_lt_pow_iff_right (by omega : 1 < 2)).1 this
      omega
  obtain ⟨hc16, hsm⟩ := hc16
  have hcall := fun k => resize_any p s (some g) c h q (w.drewN k) hR (by omega) (by omega) hsm
  obtain ⟨hp, _⟩ := hR
  have hlt : p < w.heap.size := lt_of_block hp
  have h0 : w.cell? ⟨p, 0, none⟩ = some (.slice (some ⟨g, 0, none⟩) c c) := by simp [World.cell?, hp]
  have h2 : w.cell? ⟨p, 2, none⟩ = some (.int .i64 (c : Int)) := by rw [← hfull]; simp [World.cell?, hp]
  have HC : Hid (∀ k, Calls Yba.prog 16 #[.pointer (some ⟨p, 0, none⟩), .int .i64 (s : Int)] (w.drewN k) fun e w' => e = .returned (.tuple #[]) ∧ Rg w' p (some w.heap.size) s 0 q ∧ KeptBut (fun j => j = p) (w.drewN k) w') := hcall
  have HS : Hid (s = 2 * c) := hs
  have HF : Hid (q.length = c) := hfull
  rw [← hs]
  clear hcall hp hs hfull hsm
  go_enter Yba.func11, Yba.ntmps11
  go_wp2
  go_quiet (fail)
  go_wp2_with fail
  rw [show (2 * (c : Int)) = (s : Int) from by have := HS.out; omega]
  refine (HC.out nq).mono ?_
  rintro e w1 ⟨rfl, hR1, hk1⟩
  clear h0 h2
  obtain ⟨h', hR1⟩ : ∃ h', Rg w1 p (some w.heap.size) s h' q := ⟨0, hR1⟩
  obtain ⟨k, u, e0, e1, e2, e3, e4, e5, e6, e7, e8, e9, e10, e11, e12, e13⟩ := push_facts v hR1 (by have := HS.out; have := HF.out; omega)
  have e14 : q.length < s := by have := HS.out; have := HF.out; omega
  clear hR1
  generalize q.length = n at e2 e4 e10 e13 e14
  go_wp2
  go_region
  go_wp2
  go_end0
  exact ⟨rfl, ⟨h', (e13.out _).1⟩, ((kept_drewN _ w _).trans hk1).new (e13.out _).2 (Nat.le_refl _)⟩

theorem push_nil (p : Nat) (v : Int) (w : World) (hR : Rg w p none 0 0 []) :
    Calls Yba.prog 11 #[.pointer (some ⟨p, 0, none⟩), .int .i64 v] w fun e w' => e = .returned (.tuple #[]) ∧ (∃ h', Rg w' p (some w.heap.size) 16 h' [v]) ∧ KeptBut (fun j => j = p) w w' := by
  obtain ⟨s, hs⟩ : ∃ s, s = 16 := ⟨_, rfl⟩
  have hcall := fun k => resize_any p s none 0 0 [] (w.drewN k) hR (by simp) (by omega) ⟨4, by omega, by omega⟩
  obtain ⟨hp, _⟩ := hR
  have hlt : p < w.heap.size := lt_of_block hp
  have h0 : w.cell? ⟨p, 0, none⟩ = some (.slice none 0 0) := by simp [World.cell?, hp]
  have h2 : w.cell? ⟨p, 2, none⟩ = some (.int .i64 0) := by simp [World.cell?, hp]
  have HC : Hid (∀ k, Calls Yba.prog 16 #[.pointer (some ⟨p, 0, none⟩), .int .i64 (s : Int)] (w.drewN k) fun e w' => e = .returned (.tuple #[]) ∧ Rg w' p (some w.heap.size) s 0 [] ∧ KeptBut (fun j => j = p) (w.drewN k) w') := hcall
  have HS : Hid (s = 16) := hs
  rw [← hs]
  clear hcall hp hs
  go_enter Yba.func11, Yba.ntmps11
  go_wp2
  go_quiet (fail)
  go_wp2_with fail
  rw [show (16 : Int) = (s : Int) from by have := HS.out; omega]
  refine (HC.out nq).mono ?_
  rintro e w1 ⟨rfl, hR1, hk1⟩
  clear h0 h2
  obtain ⟨q, hq⟩ : ∃ q : List Int, q = [] := ⟨_, rfl⟩
  rw [← hq] at hR1
  have e14 : q.length < s := by have := HS.out; rw [hq, this]; decide
  have HQ : Hid (q = []) := hq
  clear hq
  obtain ⟨h', hR1⟩ : ∃ h', Rg w1 p (some w.heap.size) s h' q := ⟨0, hR1⟩
  obtain ⟨k, u, e0, e1, e2, e3, e4, e5, e6, e7, e8, e9, e10, e11, e12, e13⟩ := push_facts v hR1 e14
  clear hR1
  generalize q.length = n at e2 e4 e10 e13 e14
  go_wp2
  go_region
  go_wp2
  go_end0
  have HV : q ++ [v] = [v] := by rw [HQ.out]; rfl
  rw [HV] at e13
  exact ⟨rfl, ⟨h', (e13.out _).1⟩, ((kept_drewN _ w _).trans hk1).new (e13.out _).2 (Nat.le_refl _)⟩

/-- How many slots there are behind a push. -/
def pushCap (c n : Nat) : Nat := if n = c then max (2 * c) 16 else c

/-- (*Buffer[int]).PushBack. -/
theorem push_any (p : Nat) (o : Option Nat) (c h : Nat) (q : List Int) (v : Int) (w : World) (hR : Rg w p o c h q) (hc : c ≤ 2 ^ 30) :
    Calls Yba.prog 11 #[.pointer (some ⟨p, 0, none⟩), .int .i64 v] w fun e w' => e = .returned (.tuple #[]) ∧
      ∃ o' h', Rg w' p o' (pushCap c q.length) h' (q ++ [v]) ∧ (o' = o ∨ o' = some w.heap.size) ∧ KeptBut (fun j => j = p ∨ o = some j) w w' := by
  have hR0 := hR
  obtain ⟨hp, ⟨rfl, rfl, rfl, rfl⟩ | ⟨g, rfl, hgp, hh, hqc, hc16, r⟩⟩ := hR
  · refine (push_nil p v w hR0).mono ?_
    rintro e w' ⟨rfl, ⟨h', hR'⟩, hk⟩
    exact ⟨rfl, some w.heap.size, h', hR', .inr rfl, hk.mono fun k _ e => .inl e⟩
  · by_cases hf : q.length = c
    · refine (push_full p g c h q v w hR0 hf hc).mono ?_
      rintro e w' ⟨rfl, ⟨h', hR'⟩, hk⟩
      refine ⟨rfl, some w.heap.size, h', ?_, .inr rfl, hk.mono fun k _ e => .inl e⟩
      unfold pushCap
      rw [if_pos hf, Nat.max_eq_left (by omega)]
      exact hR'
    · refine (push_room p g c h q v w hR0 (by omega)).mono ?_
      rintro e w' ⟨rfl, hR', hk⟩
      refine ⟨rfl, some g, h, ?_, .inl rfl, hk.mono fun k _ e => ?_⟩
      · unfold pushCap
        rw [if_neg hf]
        exact hR'
      · rcases e with e | e
        · exact .inl e
        · exact .inr (by rw [e])
end Go.Proofs.Ybulkctyw
