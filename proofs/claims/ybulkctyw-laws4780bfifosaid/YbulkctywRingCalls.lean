/-
  (*Buffer[int]): resize in the words of the ring; Len, Cap.
-/
import Derived.Test.YbulkctywRingResize
import Derived.Test.YbulkctywOrParts
namespace Go.Proofs.Ybulkctyw
open Go.RowKit

theorem int_one (q : List Int) : ∀ v ∈ q.map (Value.int .i64), v.oneCell' = true := by
  intro v hv
  obtain ⟨n, _, rfl⟩ := List.mem_map.1 hv
  rfl

theorem getD_of {q : List Int} {i : Nat} {v : Value} (h : (q.map (Value.int .i64))[i]? = some v) : i < q.length ∧ v = .int .i64 (q.getD i 0) := by
  rw [List.getElem?_map] at h
  cases hq : q[i]? with
  | none => rw [hq] at h; cases h
  | some x =>
    rw [hq] at h
    simp at h
    exact ⟨(List.getElem?_eq_some_iff.1 hq).1, by rw [← h]; simp [List.getD, hq]⟩

theorem at_getD {q : List Int} {i : Nat} (h : i < q.length) : (q.map (Value.int .i64))[i]? = some (.int .i64 (q.getD i 0)) := by
  simp [h]

/-- From what resize leaves to the ring. -/
theorem rz_ring {w w' : World} {p s : Nat} {row : List Value} {sl : Value} {hv : Value} {q : List Int} (hp : w.heap[p]? = some (.cells #[sl, hv, .int .i64 (q.length : Int)] 44 (0, 0))) (hr : RzPost p s row w w') (hl : row.length = s) (hq : q.length ≤ s) (h16 : 16 ≤ s)
    (hm : ∃ m, s = 2 ^ m ∧ m ≤ 40) (hrow : ∀ i, i < q.length → row[i]? = some (.int .i64 (q.getD i 0))) : Rg w' p (some w.heap.size) s 0 q ∧ KeptBut (fun j => j = p) w w' := by
  obtain ⟨w4, hb, hg, rfl⟩ := hr
  have hlt : p < w.heap.size := lt_of_block hp
  have h4 : w4.heap[p]? = some (.cells #[sl, hv, .int .i64 (q.length : Int)] 44 (0, 0)) := (hb.block p hlt).trans hp
  have e1 := heap_setCell_same w4 p 0 _ 44 (.slice (some ⟨w.heap.size, 0, none⟩) s s) h4
  have e2 := heap_setCell_same _ p 1 _ 44 (.int .i64 0) e1
  refine ⟨⟨?_, .inr ⟨w.heap.size, rfl, by omega, by omega, hq, h16, hm, row, ?_, hl, ?_⟩⟩, ?_⟩
  · rw [e2]; simp
  · rw [Below.heap_setCell _ _ _ _ (by show w.heap.size ≠ p; omega), Below.heap_setCell _ _ _ _ (by show w.heap.size ≠ p; omega)]
    exact hg
  · intro i hi
    rw [Nat.zero_add, Nat.mod_eq_of_lt (by omega)]
    exact hrow i hi
  · have k1 : KeptBut (fun j => j = p) w w4 := ⟨hb.os, hb.tape, hb.output, hb.size, fun j hj _ => hb.block j hj⟩
    exact k1.trans ((KeptBut.setCell (S := fun j => j = p) w4 ⟨p, 0, none⟩ _ rfl).trans (KeptBut.setCell (S := fun j => j = p) _ ⟨p, 1, none⟩ _ rfl))

theorem resize_any (p s : Nat) (o : Option Nat) (c h : Nat) (q : List Int) (w : World) (hR : Rg w p o c h q) (hq : q.length ≤ s) (h16 : 16 ≤ s) (hm : ∃ m, s = 2 ^ m ∧ m ≤ 40) :
    Calls Yba.prog 16 #[.pointer (some ⟨p, 0, none⟩), .int .i64 (s : Int)] w fun e w' => e = .returned (.tuple #[]) ∧ Rg w' p (some w.heap.size) s 0 q ∧ KeptBut (fun j => j = p) w w' := by
  have hs : s ≤ 2 ^ 41 := by
    obtain ⟨m, rfl, h⟩ := hm
    exact Nat.pow_le_pow_right (by omega) (by omega)
  obtain ⟨hp, ⟨rfl, rfl, rfl, rfl⟩ | ⟨g, rfl, hgp, hh, hqc, hc16, hmc, cs, hg, hcl, hcs⟩⟩ := hR
  · refine (resize_nil p s w (by simpa using hp) hs).mono ?_
    rintro e w' ⟨rfl, Z, hZ, hr⟩
    exact ⟨rfl, rz_ring (q := []) hp hr (by rw [length_splice _ _ _ (by simp)]; exact hZ) hq h16 hm (fun i hi => absurd hi (by simp))⟩
  · have hcm : c ≤ 2 ^ 40 := by
      obtain ⟨m, rfl, h⟩ := hmc
      exact Nat.pow_le_pow_right (by omega) h
    have hcell : ∀ j, w.cell? ⟨g, j, none⟩ = cs[j]? := fun j => by rw [cell_of_row w g j _ _ _ hg]; simp
    have hglt := lt_of_block hg
    by_cases hfit : h + q.length ≤ c
    · refine (resize_one p g c h q.length s (q.map (Value.int .i64)) w (by simpa using hp) hglt (by simp) ?_ (int_one q) hs hcm hh hfit hq).mono ?_
      · intro j v hj
        obtain ⟨hlt, rfl⟩ := getD_of hj
        rw [hcell, ← hcs j hlt, Nat.mod_eq_of_lt (by omega)]
      · rintro e w' ⟨rfl, Z, hZ, hr⟩
        refine ⟨rfl, rz_ring hp hr (by rw [length_splice _ _ _ (by simp; omega)]; exact hZ) hq h16 hm (fun i hi => ?_)⟩
        rw [splice_at _ _ _ _ (by simp; omega), if_pos ⟨by omega, by simp; omega⟩]
        exact at_getD hi
    · refine (resize_two p g c h q.length s ((q.take (c - h)).map (Value.int .i64)) ((q.drop (c - h)).map (Value.int .i64)) w (by simpa using hp) hglt (by simp; omega) (by simp; omega) ?_ ?_ (int_one _) (int_one _) hs hcm hh hqc hfit hq).mono ?_
      · intro j v hj
        obtain ⟨hlt, rfl⟩ := getD_of hj
        simp only [List.length_take] at hlt
        rw [hcell, show (q.take (c - h)).getD j 0 = q.getD j 0 from by simp [show j < c - h from by omega], ← hcs j (by omega), Nat.mod_eq_of_lt (by omega)]
      · intro j v hj
        obtain ⟨hlt, rfl⟩ := getD_of hj
        simp only [List.length_drop] at hlt
        rw [hcell, show (q.drop (c - h)).getD j 0 = q.getD (c - h + j) 0 from by simp [List.getElem?_drop], ← hcs (c - h + j) (by omega)]
        congr 1
        rw [show h + (c - h + j) = j + c from by omega, Nat.add_mod_right, Nat.mod_eq_of_lt (by omega)]
      · rintro e w' ⟨rfl, Z, hZ, hr⟩
        have l1 : (splice Z 0 ((q.take (c - h)).map (Value.int .i64))).length = s := by rw [length_splice _ _ _ (by simp; omega)]; exact hZ
        refine ⟨rfl, rz_ring hp hr (by rw [length_splice _ _ _ (by rw [l1]; simp; omega)]; exact l1) hq h16 hm (fun i hi => ?_)⟩
        rw [splice_at _ _ _ _ (by rw [l1]; simp; omega)]
        simp only [List.length_map, List.length_take, List.length_drop]
        by_cases hi2 : i < c - h
        · rw [if_neg (by omega), splice_at _ _ _ _ (by simp; omega), if_pos ⟨by omega, by simp; omega⟩, Nat.sub_zero, at_getD (by simp; omega)]
          congr 2
          simp [hi2]
        · rw [if_pos (by omega), at_getD (by simp; omega)]
          congr 2
          simp [List.getElem?_drop]
          congr 2
          omega

theorem len_any (p : Nat) (o : Option Nat) (c h : Nat) (q : List Int) (w : World) (hR : Rg w p o c h q) :
    Calls Yba.prog 13 #[.pointer (some ⟨p, 0, none⟩)] w fun e w' => e = .returned (.int .i64 (q.length : Int)) ∧ w' = w := by
  have h2 : w.cell? ⟨p, 2, none⟩ = some (.int .i64 (q.length : Int)) := by simp [World.cell?, hR.1]
  clear hR
  go_enter Yba.func13, Yba.ntmps13
  go_wp2
  go_ret
  exact ⟨rfl, rfl⟩

theorem cap_any (p : Nat) (o : Option Nat) (c h : Nat) (q : List Int) (w : World) (hR : Rg w p o c h q) :
    Calls Yba.prog 14 #[.pointer (some ⟨p, 0, none⟩)] w fun e w' => e = .returned (.int .i64 (c : Int)) ∧ w' = w := by
  have h2 : w.cell? ⟨p, 0, none⟩ = some (.slice (o.map fun g => ⟨g, 0, none⟩) c c) := by simp [World.cell?, hR.1]
  clear hR
  generalize (o.map fun g => (⟨g, 0, none⟩ : Addr)) = a at h2
  go_enter Yba.func14, Yba.ntmps14
  go_wp2
  go_ret
  exact ⟨rfl, rfl⟩
end Go.Proofs.Ybulkctyw
