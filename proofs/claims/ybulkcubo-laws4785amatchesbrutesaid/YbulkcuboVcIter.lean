/-
  (Event).others, entriesFrom and its closure: the iterator over an event's entries for other hosts: its contract.
-/
import Derived.Test.YbulkcuboVcLe
import Derived.RangeFuncNested
import Derived.RangeFuncBound
import Derived.RangeFuncCalls
import Derived.RangeFuncLeaves
import Derived.RangeFuncBox
import Derived.Shelf.Abstract
import Derived.Shelf.RegionOpen
import Derived.WalkKit
import Derived.OwnWalkIn
import Derived.TacticsInMore
import Derived.LoopNIn
import Derived.LoopIn
import Derived.WalkSpells
import Derived.Stop.RegionWithIn
import Derived.RangeFuncWrites
namespace Go.Proofs.Ybulkcubo
open Go.RowKit Go.Shelf
attribute [local go_sem] Oper.semAt_some

/-- What a round of the loop is handed: a host's number and a counter of at most a thousand. -/
abbrev Ent := { x : Int × Nat // x.2 ≤ 1000 }
def encE (x : Ent) : Array Value := #[.int .i32 x.1.1, .int .u64 (x.1.2 : Int)]

/-- An event in memory: its counters, its slots, its host's slots. -/
structure EvMem (n₀ : Nat) (w : World) (nh m : Nat) (ev : Array Value) (cl : Nat → Nat) : Prop where
  shape : ∃ (line : Int) (x cn cc : Nat) (sv : Value), ev = #[.int .i64 line, .pointer (some ⟨x, 0, none⟩), .slice (some ⟨cn, 0, none⟩) m cc, sv] ∧ x < n₀ ∧ cn < n₀ ∧
    (∃ s sc : Nat, w.cell? ⟨x, 4, none⟩ = some (.slice (some ⟨s, 0, none⟩) nh sc) ∧ s < n₀ ∧ ∀ k, k < nh → ∃ z : Int, w.cell? ⟨s, k, none⟩ = some (.int .i32 z)) ∧
    (∀ k, k < m → w.cell? ⟨cn, k, none⟩ = some (.int .u64 (cl k : Int))) ∧
    ((sv = .slice none 0 0 ∧ m ≤ nh) ∨ ∃ b bc : Nat, sv = .slice (some ⟨b, 0, none⟩) m bc ∧ b < n₀ ∧ ∀ k, k < m → ∃ z : Nat, z < nh ∧ w.cell? ⟨b, k, none⟩ = some (.int .i32 (z : Int)))
  small : ∀ k, k < m → cl k ≤ 1000

/-- What has come when the places below k are done. -/
def sumTo (cl : Nat → Nat) : Nat → Nat
  | 0 => 0
  | k + 1 => sumTo cl k + (if k = 0 then 0 else cl k)
def sumE (l : List Ent) : Nat := (l.map fun x => x.1.2).sum

theorem from_in (F : Fence) (n : Nat) (h11 : F.fn 11) (hro : F.round = none) (c0 c1 c2 c3 : Value) (w : World) :
    CallsIn F n Yba.prog 11 #[.agg #[c0, c1, c2, c3], .int .i64 1] w fun e w' => e = .returned (.func (.func 12) #[] #[.pointer (some ⟨w.heap.size, 0, none⟩), .pointer (some ⟨w.heap.size + 1, 0, none⟩)]) ∧
      w' = (w.alloc (.cells #[c0, c1, c2, c3] 40)).alloc (.cells #[.int .i64 1] 3) := by
  refine callsIn_of_wp Yba.func11 rfl h11 ?_ hro
  simp only [Yba.ntmps11, List.size_toArray, List.length_cons, List.length_nil, Nat.reduceAdd, Nat.reduceSub, Array.replicate_succ, Array.replicate_zero, List.push_toArray, List.append_toArray, List.nil_append, List.cons_append]
  gi_wp2
  go_ret
  exact ⟨rfl, rfl⟩

theorem others_in (F : Fence) (n : Nat) (h10 : F.fn 10) (h11 : F.fn 11) (hro : F.round = none) (hn : 2 ≤ n) (c0 c1 c2 c3 : Value) (w : World) :
    CallsIn F n Yba.prog 10 #[.agg #[c0, c1, c2, c3]] w fun e w' => e = .returned (.func (.func 12) #[] #[.pointer (some ⟨w.heap.size + 1, 0, none⟩), .pointer (some ⟨w.heap.size + 1 + 1, 0, none⟩)]) ∧
      w' = ((w.alloc (.cells #[c0, c1, c2, c3] 40)).alloc (.cells #[c0, c1, c2, c3] 40)).alloc (.cells #[.int .i64 1] 3) := by
  have h1 : 1 ≤ n := by omega
  refine callsIn_of_wp Yba.func10 rfl h10 ?_ hro
  simp only [Yba.ntmps10, List.size_toArray, List.length_cons, List.length_nil, Nat.reduceAdd, Nat.reduceSub, Array.replicate_succ, Array.replicate_zero, List.push_toArray, List.append_toArray, List.nil_append, List.cons_append]
  gi_wp2_with (gi_at_call 11; refine (from_in F (n - 1) h11 hro _ _ _ _ _).mono ?_; rintro e w' ⟨rfl, rfl⟩)
  go_ret
  exact ⟨rfl, rfl⟩

/-- All cells but those of one block are as they were. -/
structure KpN (Bn : Nat) (W W' : World) : Prop where
  size : W.heap.size ≤ W'.heap.size
  same : ∀ (k : Nat) (cs : Array Value) (t : TypeId) (fr : Nat × Nat), k ≠ Bn → W.heap[k]? = some (.cells cs t fr) → W'.heap[k]? = some (.cells cs t fr)

theorem KpN.refl (Bn : Nat) (W : World) : KpN Bn W W := ⟨Nat.le_refl _, fun _ _ _ _ _ h => h⟩
theorem KpN.trans {Bn : Nat} {A B C : World} (h : KpN Bn A B) (k : KpN Bn B C) : KpN Bn A C := ⟨Nat.le_trans h.size k.size, fun x cs t fr ne e => k.same x cs t fr ne (h.same x cs t fr ne e)⟩
theorem KpN.cell {Bn : Nat} {W W' : World} (h : KpN Bn W W') {b i : Nat} {v : Value} (ne : b ≠ Bn) (e : W.cell? ⟨b, i, none⟩ = some v) : W'.cell? ⟨b, i, none⟩ = some v := by
  unfold World.cell? at e ⊢
  cases hb : W.heap[b]? with
  | none => simp [hb] at e
  | some o =>
    cases o <;> simp [hb] at e
    simp [h.same _ _ _ _ ne hb, e]
theorem KpN.grown {Bn : Nat} {W W' : World} {row : Option Nat} (hg : W.grownBy W' row) (hr : ∀ r, row = some r → ∃ o : Obj, W.heap[r]? = some o ∧ o.isCells = false) : KpN Bn W W' :=
  ⟨hg.size, fun k cs t fr _ e => by
    refine (hg.block k ?_ ?_).trans e
    · exact (Array.getElem?_eq_some_iff.1 e).1
    · intro h
      obtain ⟨o, ho, hc⟩ := hr k h.symm
      rw [e] at ho
      cases ho
      cases hc⟩
theorem KpN.drew {Bn : Nat} {W W' : World} (h : KpN Bn W W') : KpN Bn W W'.drew := ⟨h.size, h.same⟩
theorem KpN.alloc {Bn : Nat} {W : World} (o : Obj) : KpN Bn W (W.alloc o) := KpN.grown (World.grownBy_alloc W o none) (by simp)

theorem cell_new2 (W : World) (a b : Value) (t : TypeId) : (W.alloc (.cells #[a, b] t)).cell? ⟨W.heap.size, 0, none⟩ = some a ∧ (W.alloc (.cells #[a, b] t)).cell? ⟨W.heap.size, 1, none⟩ = some b := by
  unfold World.cell?
  rw [World.alloc_heap_new]
  exact ⟨rfl, rfl⟩

set_option maxRecDepth 100000 in
set_option maxHeartbeats 8000000 in
theorem iter1_in (n : Nat) (hn : 1 ≤ n) (l Bn Be Bf n₀ nh m : Nat) (ev : Array Value) (cl : Nat → Nat) (hm1 : 1 ≤ m) (hm4 : m ≤ 1000) (hnh : nh ≤ 1000) (J Jx : List Ent → World → Prop)
    (hY : ∀ pre x W, J pre W → pre.length < m → YieldAt Fence.wide (n - 1) Yba.prog l (encE x) W fun e W' =>
      (e = .returned (.bool true) ∧ J (pre ++ [x]) W' ∧ KpN Bn W W') ∨ (e = .returned (.bool false) ∧ Jx (pre ++ [x]) W'))
    (W : World) (hJA : AbidesFrom W.heap.size J) (l1 : Be < W.heap.size) (l2 : Bf < W.heap.size) (_hbe : Be ≠ Bn) (_hbf : Bf ≠ Bn) (hn0 : n₀ ≤ Bn) (hBn : Bn < W.heap.size)
    (hev : W.heap[Be]? = some (.cells ev 40 (0, 0))) (hf : W.cell? ⟨Bf, 0, none⟩ = some (.int .i64 1)) (hE : EvMem n₀ W nh m ev cl) (h0 : J [] W) :
    CallsIn Fence.wide n Yba.prog 12 #[.func (.yield l) #[] #[], .pointer (some ⟨Be, 0, none⟩), .pointer (some ⟨Bf, 0, none⟩)] W fun e W' => (∃ v, e = .returned v) ∧
      ((∃ ys, sumE ys = sumTo cl m ∧ J ys W') ∨ (∃ pre : List Ent, True ∧ Jx pre W')) := by
  obtain ⟨⟨line, x, cn, cc, sv, rfl, hx, hcn, ⟨s, sc, hs, hsn, hsc⟩, hcl, hsv⟩, hsmall⟩ := hE
  have e1 : W.cell? ⟨Be, 1, none⟩ = some (.pointer (some ⟨x, 0, none⟩)) := by simp [World.cell?, hev]
  have e2 : W.cell? ⟨Be, 2, none⟩ = some (.slice (some ⟨cn, 0, none⟩) m cc) := by simp [World.cell?, hev]
  have e3 : W.cell? ⟨Be, 3, none⟩ = some sv := by simp [World.cell?, hev]
  clear hev
  have l3 : x < W.heap.size := by omega
  have l4 : s < W.heap.size := by omega
  have l5 : cn < W.heap.size := by omega
  refine callsIn_of_wp Yba.func12 rfl trivial ?_ rfl
  simp only [Yba.ntmps12, List.size_toArray, List.length_cons, List.length_nil, Nat.reduceAdd, Nat.reduceSub, Array.replicate_succ, Array.replicate_zero, List.push_toArray, List.append_toArray, List.nil_append, List.cons_append]
  rcases hsv with ⟨rfl, hmn⟩ | ⟨b, bc, rfl, hb, hbc⟩
  · by_cases hm : m = 1
    · subst hm
      clear hcl hsc hsmall
      gi_wp2
      refine bodyPost_ret (results_none rfl _ _ _) rfl ?_
      exact ⟨⟨_, rfl⟩, .inl ⟨[], rfl, hJA _ _ _ _ h0 (World.grownBy_alloc W _ none) (by simp)⟩⟩
    · have hm2 : ¬ (m : Int) ≤ 1 := by omega
      clear hm
      gi_wp2
      obtain ⟨W1, hW1⟩ : ∃ W1, W1 = W.alloc (.cells #[.slice (some ⟨cn, 0, none⟩) m cc, .slice none 0 0] 38) := ⟨_, rfl⟩
      rw [← hW1]
      have hk1 : KpN Bn W W1 := by rw [hW1]; exact KpN.alloc _
      have hJ1 : J [] W1 := by rw [hW1]; exact hJA _ _ _ _ h0 (World.grownBy_alloc W _ none) (by simp)
      have hc0 : W1.cell? ⟨W.heap.size, 0, none⟩ = some (.slice (some ⟨cn, 0, none⟩) m cc) := by rw [hW1]; exact (cell_new2 W _ _ 38).1
      have hc1 : W1.cell? ⟨W.heap.size, 1, none⟩ = some (.slice none 0 0) := by rw [hW1]; exact (cell_new2 W _ _ 38).2
      clear hW1
      gi_loopw [6] (fun i wr => ∃ (k : Nat) (pre : List Ent), 1 ≤ k ∧ k ≤ m ∧ i = .int .i64 k ∧ pre.length ≤ k - 1 ∧ sumE pre = sumTo cl k ∧ J pre wr ∧ KpN Bn W1 wr) (fun i _ => m - (intOf i).toNat)
      case atStart => exact ⟨1, [], by omega, by omega, rfl, by simp, by simp [sumE, sumTo], hJ1, KpN.refl _ _⟩
      case round =>
        obtain ⟨k, pre, hk1', hkm, rfl, hlen, hsum, hJr, hkr⟩ := hrel
        have g0 := hkr.cell (by omega) hc0
        have g1 := hkr.cell (by omega) hc1
        by_cases hlt : k < m
        · have hltI : (k : Int) < m := by omega
          have g2 := (hk1.trans hkr).cell (by omega) (hcl k hlt)
          obtain ⟨z, hz⟩ := hsc k (by omega)
          have g3 := (hk1.trans hkr).cell (by omega) hz
          by_cases hv : cl k = 0
          · rw [hv] at g2
            gi_wp2
            go_roundw
            case rel => exact ⟨k + 1, pre, by omega, by omega, by simp, by omega, by simp [sumTo, hv, hsum], hJr, hkr⟩
            case measure => simp [intOf]; omega
          · have hvI : ¬ (cl k : Int) = 0 := by omega
            gi_wp2
            have hJd : J pre wr.drew := hJA _ _ _ none hJr ⟨rfl, rfl, rfl, Nat.le_refl _, fun _ _ _ => rfl⟩ (fun r h => by cases h)
            obtain ⟨fn, tmps, assign, body, hy, hR⟩ := hY pre ⟨(z, cl k), hsmall k hlt⟩ wr.drew hJd (by omega)
            dsimp only [encE] at hy
            have hR' := hR.mono (R' := fun e W' => ∃ t, e = .returned (.bool t) ∧ if t then J (pre ++ [⟨(z, cl k), hsmall k hlt⟩]) W' ∧ KpN Bn wr.drew W' else Jx (pre ++ [⟨(z, cl k), hsmall k hlt⟩]) W') (by
              rintro e W3 (⟨rfl, hJ3, hk3⟩ | ⟨rfl, hJx3⟩)
              · exact ⟨true, rfl, by simpa using ⟨hJ3, hk3⟩⟩
              · exact ⟨false, rfl, by simpa using hJx3⟩)
            clear hR
            have hsn1 : sumE (pre ++ [⟨(z, cl k), hsmall k hlt⟩]) = sumTo cl (k + 1) := by
              have hk0 : ¬ k = 0 := by omega
              simp only [sumE, sumTo, List.map_append, List.sum_append] at hsum ⊢
              simp [hsum, hk0]
            have hnx : KpN Bn W1 wr.drew := hkr.drew
            gi_region_with (refine hR'.mono ?_; rintro e W3 ⟨t, rfl, hd⟩)
            all_goals
              cases t with
              | false =>
                simp only [Bool.false_eq_true, ↓reduceIte] at hd
                gi_wp2
                refine bodyPost_ret (results_none rfl _ _ _) rfl ?_
                exact ⟨⟨_, rfl⟩, .inr ⟨_, trivial, hd⟩⟩
              | true =>
                simp only [↓reduceIte] at hd
                gi_wp2
                go_roundw
                case rel => exact ⟨k + 1, _, by omega, by omega, by simp, by simp; omega, hsn1, hd.1, hnx.trans hd.2⟩
                case measure => simp [intOf]; omega
        · obtain rfl : k = m := by omega
          gi_wp2
          refine bodyPost_end (results_none rfl _ _ _) rfl ?_
          exact ⟨⟨_, rfl⟩, .inl ⟨pre, hsum, hJr⟩⟩
  · have l6 : b < W.heap.size := by omega
    by_cases hm : m = 1
    · subst hm
      clear hcl hsc hsmall hbc
      gi_wp2
      refine bodyPost_ret (results_none rfl _ _ _) rfl ?_
      exact ⟨⟨_, rfl⟩, .inl ⟨[], rfl, hJA _ _ _ _ h0 (World.grownBy_alloc W _ none) (by simp)⟩⟩
    · have hm2 : ¬ (m : Int) ≤ 1 := by omega
      clear hm
      gi_wp2
      obtain ⟨W1, hW1⟩ : ∃ W1, W1 = W.alloc (.cells #[.slice (some ⟨cn, 0, none⟩) m cc, .slice (some ⟨b, 0, none⟩) m bc] 38) := ⟨_, rfl⟩
      rw [← hW1]
      have hk1 : KpN Bn W W1 := by rw [hW1]; exact KpN.alloc _
      have hJ1 : J [] W1 := by rw [hW1]; exact hJA _ _ _ _ h0 (World.grownBy_alloc W _ none) (by simp)
      have hc0 : W1.cell? ⟨W.heap.size, 0, none⟩ = some (.slice (some ⟨cn, 0, none⟩) m cc) := by rw [hW1]; exact (cell_new2 W _ _ 38).1
      have hc1 : W1.cell? ⟨W.heap.size, 1, none⟩ = some (.slice (some ⟨b, 0, none⟩) m bc) := by rw [hW1]; exact (cell_new2 W _ _ 38).2
      clear hW1
      gi_loopw [6] (fun i wr => ∃ (k : Nat) (pre : List Ent), 1 ≤ k ∧ k ≤ m ∧ i = .int .i64 k ∧ pre.length ≤ k - 1 ∧ sumE pre = sumTo cl k ∧ J pre wr ∧ KpN Bn W1 wr) (fun i _ => m - (intOf i).toNat)
      case atStart => exact ⟨1, [], by omega, by omega, rfl, by simp, by simp [sumE, sumTo], hJ1, KpN.refl _ _⟩
      case round =>
        obtain ⟨k, pre, hk1', hkm, rfl, hlen, hsum, hJr, hkr⟩ := hrel
        have g0 := hkr.cell (by omega) hc0
        have g1 := hkr.cell (by omega) hc1
        by_cases hlt : k < m
        · have hltI : (k : Int) < m := by omega
          have g2 := (hk1.trans hkr).cell (by omega) (hcl k hlt)
          obtain ⟨q, hq, hqc⟩ := hbc k hlt
          have g4 := (hk1.trans hkr).cell (by omega) hqc
          have hqI : (q : Int) < nh := by omega
          obtain ⟨z, hz⟩ := hsc q (by omega)
          have g3 := (hk1.trans hkr).cell (by omega) hz
          by_cases hv : cl k = 0
          · rw [hv] at g2
            gi_wp2
            go_roundw
            case rel => exact ⟨k + 1, pre, by omega, by omega, by simp, by omega, by simp [sumTo, hv, hsum], hJr, hkr⟩
            case measure => simp [intOf]; omega
          · have hvI : ¬ (cl k : Int) = 0 := by omega
            gi_wp2
            have hJd : J pre wr.drew := hJA _ _ _ none hJr ⟨rfl, rfl, rfl, Nat.le_refl _, fun _ _ _ => rfl⟩ (fun r h => by cases h)
            obtain ⟨fn, tmps, assign, body, hy, hR⟩ := hY pre ⟨(z, cl k), hsmall k hlt⟩ wr.drew hJd (by omega)
            dsimp only [encE] at hy
            have hR' := hR.mono (R' := fun e W' => ∃ t, e = .returned (.bool t) ∧ if t then J (pre ++ [⟨(z, cl k), hsmall k hlt⟩]) W' ∧ KpN Bn wr.drew W' else Jx (pre ++ [⟨(z, cl k), hsmall k hlt⟩]) W') (by
              rintro e W3 (⟨rfl, hJ3, hk3⟩ | ⟨rfl, hJx3⟩)
              · exact ⟨true, rfl, by simpa using ⟨hJ3, hk3⟩⟩
              · exact ⟨false, rfl, by simpa using hJx3⟩)
            clear hR
            have hsn1 : sumE (pre ++ [⟨(z, cl k), hsmall k hlt⟩]) = sumTo cl (k + 1) := by
              have hk0 : ¬ k = 0 := by omega
              simp only [sumE, sumTo, List.map_append, List.sum_append] at hsum ⊢
              simp [hsum, hk0]
            have hnx : KpN Bn W1 wr.drew := hkr.drew
            gi_region_with (refine hR'.mono ?_; rintro e W3 ⟨t, rfl, hd⟩)
            all_goals
              cases t with
              | false =>
                simp only [Bool.false_eq_true, ↓reduceIte] at hd
                gi_wp2
                refine bodyPost_ret (results_none rfl _ _ _) rfl ?_
                exact ⟨⟨_, rfl⟩, .inr ⟨_, trivial, hd⟩⟩
              | true =>
                simp only [↓reduceIte] at hd
                gi_wp2
                go_roundw
                case rel => exact ⟨k + 1, _, by omega, by omega, by simp, by simp; omega, hsn1, hd.1, hnx.trans hd.2⟩
                case measure => simp [intOf]; omega
        · obtain rfl : k = m := by omega
          gi_wp2
          refine bodyPost_end (results_none rfl _ _ _) rfl ?_
          exact ⟨⟨_, rfl⟩, .inl ⟨pre, hsum, hJr⟩⟩
end Go.Proofs.Ybulkcubo
