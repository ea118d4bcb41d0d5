/-
  (*Log).NumConcurrentPairs: its contract.
-/
import Derived.Test.YbulkcuboVcIter
import Derived.Test.YbulkcuboVcMath
namespace Go.Proofs.Ybulkcubo
open Go.RowKit Go.Shelf
attribute [local go_sem] Oper.semAt_some

theorem EvMem.below {n₀ N : Nat} {A B : World} {nh m : Nat} {ev : Array Value} {cl : Nat → Nat} (h : EvMem n₀ A nh m ev cl) (hb : Below N A B) (hN : n₀ ≤ N) : EvMem n₀ B nh m ev cl := by
  obtain ⟨⟨line, x, cn, cc, sv, e, hx, hcn, ⟨s, sc, hs, hsn, hsc⟩, hcl, hsv⟩, hsmall⟩ := h
  have tr : ∀ (b i : Nat) (v : Value), b < n₀ → A.cell? ⟨b, i, none⟩ = some v → B.cell? ⟨b, i, none⟩ = some v := fun b i v hlt e => (hb.cell (p := ⟨b, i, none⟩) (by show b < N; omega)).trans e
  refine ⟨⟨line, x, cn, cc, sv, e, hx, hcn, ⟨s, sc, tr _ _ _ hx hs, hsn, fun k hk => ?_⟩, fun k hk => tr _ _ _ hcn (hcl k hk), ?_⟩, hsmall⟩
  · obtain ⟨z, hz⟩ := hsc k hk
    exact ⟨z, tr _ _ _ hsn hz⟩
  · rcases hsv with h | ⟨b, bc, e, hbl, hz⟩
    · exact .inl h
    · refine .inr ⟨b, bc, e, hbl, fun k hk => ?_⟩
      obtain ⟨z, h1, h2⟩ := hz k hk
      exact ⟨z, h1, tr _ _ _ hbl h2⟩

theorem others_stops (n : Nat) (hn : 1 ≤ n) (Bn Be Bf n₀ nh m : Nat) (ev : Array Value) (cl : Nat → Nat) (hm1 : 1 ≤ m) (hm4 : m ≤ 1000) (hnh : nh ≤ 1000) (w : World)
    (l1 : Be < w.heap.size) (l2 : Bf < w.heap.size) (hbe : Be ≠ Bn) (hbf : Bf ≠ Bn) (hn0 : n₀ ≤ Bn) (hBn : Bn < w.heap.size)
    (hev : w.heap[Be]? = some (.cells ev 40 (0, 0))) (hf : w.cell? ⟨Bf, 0, none⟩ = some (.int .i64 1)) (hE : EvMem n₀ w nh m ev cl) :
    SeqStopsK Fence.wide n Yba.prog 12 #[.pointer (some ⟨Be, 0, none⟩), .pointer (some ⟨Bf, 0, none⟩)] encE (KpN Bn) (fun ys => sumE ys = sumTo cl m) (fun _ => True) m w := fun l J Jx W hW hJ _ hY h0 =>
  iter1_in n hn l Bn Be Bf n₀ nh m ev cl hm1 hm4 hnh J Jx hY W hJ (Nat.lt_of_lt_of_le l1 hW.size) (Nat.lt_of_lt_of_le l2 hW.size) hbe hbf hn0 (Nat.lt_of_lt_of_le hBn hW.size)
    ((hW.block _ l1).trans hev) ((hW.cell (p := ⟨Bf, 0, none⟩) l2).trans hf) (hE.below hW (by omega)) h0

theorem grownBy_trans' {a b c : World} (h : a.grownBy b none) (k : b.grownBy c none) : a.grownBy c none :=
  ⟨k.os.trans h.os, k.tape.trans h.tape, k.output.trans h.output, Nat.le_trans h.size k.size, fun x hx hr => (k.block x (Nat.lt_of_lt_of_le hx h.size) hr).trans (h.block x hx hr)⟩

theorem KpN.set (Bn : Nat) (W : World) (v : Value) : KpN Bn W (W.setCell ⟨Bn, 0, none⟩ v) := by
  have hg := grownBy_setCell' W Bn v
  exact ⟨hg.size, fun k cs t fr ne e => (hg.block k (Array.getElem?_eq_some_iff.1 e).1 (fun h => ne (by cases h; rfl))).trans e⟩

theorem sumTo_le {cl : Nat → Nat} : ∀ m, (∀ k, k < m → cl k ≤ 1000) → sumTo cl m ≤ 1000 * m
  | 0, _ => by simp [sumTo]
  | m + 1, h => by
    have h1 := sumTo_le m (fun k hk => h k (by omega))
    have h2 := h m (by omega)
    simp only [sumTo]
    split <;> omega
theorem sumE_le : ∀ l : List Ent, sumE l ≤ 1000 * l.length
  | [] => by simp [sumE]
  | x :: l => by
    have h1 := sumE_le l
    have h2 := x.2
    simp only [sumE, List.map_cons, List.sum_cons, List.length_cons] at h1 ⊢
    omega
theorem sumE_snoc (l : List Ent) (x : Ent) : sumE (l ++ [x]) = sumE l + x.1.2 := by simp [sumE]

/-- The event's variable, its three copies and the first place: what is laid ahead of a range. -/
theorem four_allocs (wr : World) (ev : Array Value) {W4 : World} (h : W4 = (((wr.alloc (.cells ev 40)).alloc (.cells ev 40)).alloc (.cells ev 40)).alloc (.cells #[.int .i64 1] 3)) :
    W4.heap.size = wr.heap.size + 4 ∧ W4.heap[wr.heap.size + 2]? = some (.cells ev 40 (0, 0)) ∧ W4.cell? ⟨wr.heap.size + 3, 0, none⟩ = some (.int .i64 1) ∧ wr.grownBy W4 none := by
  subst h
  refine ⟨by simp, ?_, ?_, ?_⟩
  · have h1 := World.alloc_heap_new ((wr.alloc (.cells ev 40)).alloc (.cells ev 40)) (.cells ev 40)
    have h2 := Below.heap_alloc (((wr.alloc (.cells ev 40)).alloc (.cells ev 40)).alloc (.cells ev 40)) (.cells #[.int .i64 1] 3) (wr.heap.size + 2) (by simp)
    rw [h2]
    simpa using h1
  · have h1 := (Boxed.new (((wr.alloc (.cells ev 40)).alloc (.cells ev 40)).alloc (.cells ev 40)) 3 (.int .i64 1)).cell
    simpa using h1
  · exact grownBy_trans' (World.grownBy_alloc _ _ _) (grownBy_trans' (World.grownBy_alloc _ _ _) (grownBy_trans' (World.grownBy_alloc _ _ _) (World.grownBy_alloc _ _ _)))

def mark (D : Nat) : Deferred := { target := .collected D, args := #[] }

/-- A list of marks is left, one after the other. -/
theorem leave_marks {F : Fence} {n : Nat} {P : Program} {fn : Func} {tmps : Array Value} {R : Ending → World → Prop} (N : Nat) : ∀ (Ds : List Nat) (W : World), Ds.Nodup →
    (∀ D ∈ Ds, N ≤ D ∧ W.heap[D]? = some (.deferred (some []))) → (∀ W', Below N W W' → ∃ v, (results fn tmps).run P W' = .ok v W' ∧ R (.returned v) W') →
    LeavesInM F n P fn tmps R (Ds.map mark) .returning W
  | [], W, _, _, h => by
    show LeavesIn F n P fn tmps R [] .returning W
    exact h W (Below.refl _ _)
  | D :: Ds, W, hd, hm, h => by
    obtain ⟨h1, h2⟩ := hm D (by simp)
    obtain ⟨hnot, hnd⟩ := List.nodup_cons.1 hd
    have hlt := (Array.getElem?_eq_some_iff.1 h2).1
    have hg := grownBy_putObj' W D (.deferred none)
    have hb : Below N W (W.putObj D (.deferred none)) := ⟨hg.os, hg.tape, hg.output, hg.size, fun k hk => by
      by_cases hk2 : k < W.heap.size
      · exact hg.block k hk2 (fun e => by cases e; omega)
      · omega⟩
    refine ⟨by simp, .inl ⟨D, _, rfl, run_takeDeferred h2, ?_⟩⟩
    refine leave_marks N Ds _ hnd (fun D' hD' => ?_) (fun W' hW' => h W' (hb.trans hW'))
    obtain ⟨h3, h4⟩ := hm D' (by simp [hD'])
    refine ⟨h3, (hg.block D' (Array.getElem?_eq_some_iff.1 h4).1 (fun e => ?_)).trans h4⟩
    cases e
    exact hnot hD'

/-- The log in memory. -/
structure LogMem (w : World) (pl n nh : Nat) (ks : Nat → Nat) (oth : Nat → Nat) : Prop where
  mem : ∃ E ec Hh hc, w.cell? ⟨pl, 0, none⟩ = some (.slice (some ⟨E, 0, none⟩) n ec) ∧ w.cell? ⟨pl, 2, none⟩ = some (.slice (some ⟨Hh, 0, none⟩) nh hc) ∧
    (∀ h, h < nh → ∃ (x : Nat) (sa : Option Addr) (sc : Nat), w.cell? ⟨Hh, h, none⟩ = some (.pointer (some ⟨x, 0, none⟩)) ∧ w.cell? ⟨x, 3, none⟩ = some (.slice sa (ks h) sc)) ∧
    (∀ i, i < n → ∃ (ev : Array Value) (m : Nat) (cl : Nat → Nat), 1 ≤ m ∧ m ≤ 1000 ∧ EvMem w.heap.size w nh m ev cl ∧ sumTo cl m = oth i ∧
      ∀ j, j < 4 → w.cell? ⟨E, i * 4 + j, none⟩ = ev[j]?)

theorem tri_bound {k : Nat} (h : k ≤ 400) : 0 ≤ tri k ∧ tri k ≤ 79800 ∧ wrap64 ((wrap64 ((k : Int) * ((k : Int) - 1))).tdiv 2) = tri k := by
  have h1 : (k : Int) * ((k : Int) - 1) ≤ 400 * 399 := by
    rcases k with _ | k
    · simp
    · have e : ((k + 1 : Nat) : Int) - 1 = (k : Int) := by omega
      rw [e]
      exact Int.mul_le_mul (by omega) (by omega) (by omega) (by omega)
  have h0 : 0 ≤ (k : Int) * ((k : Int) - 1) := by
    rcases k with _ | k
    · simp
    · exact Int.mul_nonneg (by omega) (by omega)
  have e : wrap64 ((k : Int) * ((k : Int) - 1)) = (k : Int) * ((k : Int) - 1) := by unfold wrap64; omega
  have e2 : ((k : Int) * ((k : Int) - 1)).tdiv 2 = tri k := by rw [tri]; exact Int.tdiv_eq_ediv_of_nonneg h0
  have b : 0 ≤ tri k ∧ tri k ≤ 79800 := by
    unfold tri
    omega
  refine ⟨b.1, b.2, ?_⟩
  rw [e, e2]
  unfold wrap64
  omega

theorem sumI_bound (f : Nat → Int) (M : Int) : ∀ n, (∀ i, i < n → 0 ≤ f i ∧ f i ≤ M) → 0 ≤ sumI f n ∧ sumI f n ≤ M * n
  | 0, _ => by simp [sumI]
  | n + 1, h => by
    have h1 := sumI_bound f M n (fun i hi => h i (by omega))
    have h2 := h n (by omega)
    have e : M * ((n + 1 : Nat) : Int) = M * n + M := by rw [Int.natCast_add, Int.mul_add]; simp
    simp only [sumI]
    omega

set_option maxRecDepth 100000 in
set_option maxHeartbeats 4000000 in
theorem pairs_calls (w : World) (pl n nh : Nat) (ks oth : Nat → Nat) (hn : n ≤ 400) (hnh : nh ≤ 4) (hks : ∀ h, h < nh → ks h ≤ 400) (hL : LogMem w pl n nh ks oth) :
    Calls Yba.prog 6 #[.pointer (some ⟨pl, 0, none⟩)] w fun e w' => e = .returned (.int .i64 (tri n - sumI (fun h => tri (ks h)) nh - sumI (fun i => (oth i : Int)) n)) ∧ Below w.heap.size w w' := by
  refine (callsIn_wide (n := 4)).1 ?_
  obtain ⟨E, ec, Hh, hc, c0, c2, hH, hEv⟩ := hL
  have lp : pl < w.heap.size := World.block_lt_of_cell? w _ c0
  obtain ⟨tn0, tn1, tn2⟩ := tri_bound hn
  refine callsIn_of_wp_marks Yba.func6 rfl trivial ?_ rfl
  simp only [Yba.ntmps6, List.size_toArray, List.length_cons, List.length_nil, Nat.reduceAdd, Nat.reduceSub, Array.replicate_succ, Array.replicate_zero, List.push_toArray, List.append_toArray, List.nil_append, List.cons_append]
  gi_wp2
  gi_loopw [27] (fun i wr => ∃ r : Nat, r ≤ nh ∧ i = .int .i64 r ∧ ∃ z, z = tri n - sumI (fun h => tri (ks h)) r ∧ wr = w.alloc (.cells #[.int .i64 z] 2)) (fun i _ => nh - (intOf i).toNat)
  case atStart => exact ⟨0, by omega, rfl, _, by simp [sumI], rfl⟩
  case round =>
    obtain ⟨r, hr, rfl, z, hz, rfl⟩ := hrel
    by_cases hlt : r < nh
    · have hltI : (r : Int) < nh := by omega
      obtain ⟨x, sa, sc, x1, x2⟩ := hH r hlt
      have lx : x < w.heap.size := World.block_lt_of_cell? w _ x2
      have lh : Hh < w.heap.size := World.block_lt_of_cell? w _ x1
      obtain ⟨k, hk⟩ : ∃ k, ks r = k := ⟨_, rfl⟩
      have hkb := hks r hlt
      rw [hk] at x2 hkb
      obtain ⟨tk0, tk1, tk2⟩ := tri_bound hkb
      have hsb := sumI_bound (fun h => tri (ks h)) 79800 r (fun i hi => ⟨(tri_bound (hks i (by omega))).1, (tri_bound (hks i (by omega))).2.1⟩)
      have hz1 : z ≤ 79800 := by omega
      have hz2 : -400000 ≤ z := by omega
      obtain ⟨tk, htk⟩ : ∃ tk, tri k = tk := ⟨_, rfl⟩
      rw [htk] at tk0 tk1 tk2
      gi_wp2
      go_roundw
      case rel => exact ⟨r + 1, by omega, by simp, _, by simp only [sumI]; rw [hk, htk]; omega, rfl⟩
      case measure => simp [intOf]; omega
    · obtain rfl : r = nh := by omega
      gi_wp2
      obtain ⟨zH, hzH⟩ : ∃ zH, tri n - sumI (fun h => tri (ks h)) r = zH := ⟨_, rfl⟩
      rw [hzH]
      have hsb := sumI_bound (fun h => tri (ks h)) 79800 r (fun i hi => ⟨(tri_bound (hks i (by omega))).1, (tri_bound (hks i (by omega))).2.1⟩)
      have hz1 : zH ≤ 79800 := by omega
      have hz2 : -400000 ≤ zH := by omega
      refine wpIn_loop (fun a wr => ∃ (i : Nat) (Ds : List Nat) (z : Int) (v0 v1 v2 v3 v5 v6 v7 v8 v9 v10 v11 v12 v13 v14 v15 v16 v17 v18 v19 v20 v21 v22 v23 v24 v25 v26 v27 v28 v29 v30 v31 v32 v33 v34 v35 v36 v37 v38 v39 v40 v41 v42 v43 v44 v45 v46 v50 v51 v52 v53 v54 v55 v56 v57 v58 v59 v60 v61 v62 : Value), a = { tmps := #[v0, v1, v2, v3, .pointer (some ⟨w.heap.size, 0, none⟩), v5, v6, v7, v8, v9, v10, v11, v12, v13, v14, v15, v16, v17, v18, v19, v20, v21, v22, v23, v24, v25, v26, v27, v28, v29, v30, v31, v32, v33, v34, v35, v36, v37, v38, v39, v40, v41, v42, v43, v44, v45, v46, .slice (some ⟨E, 0, none⟩) n ec, .int .i64 (n : Int), .int .i64 (i : Int), v50, v51, v52, v53, v54, v55, v56, v57, v58, v59, v60, v61, v62], defers := Ds.map mark } ∧ i ≤ n ∧ z = zH - sumI (fun i => (oth i : Int)) i ∧
      wr.cell? ⟨w.heap.size, 0, none⟩ = some (.int .i64 z) ∧ wr.frozen? ⟨w.heap.size, 0, none⟩ = false ∧ Below w.heap.size w wr ∧ w.heap.size < wr.heap.size ∧ Ds.Nodup ∧ ∀ D ∈ Ds, w.heap.size ≤ D ∧ wr.heap[D]? = some (.deferred (some []))) (fun a _ => n - (intOf (a.eval (.tmp 49))).toNat) ?_ ?_
      · refine ⟨0, [], zH, _, _, _, _, _, _, _, _, _, _, _, _, _, _, _, _, _, _, _, _, _, _, _, _, _, _, _, _, _, _, _, _, _, _, _, _, _, _, _, _, _, _, _, _, _, _, _, _, _, _, _, _, _, _, _, _, _, _, _, rfl, by omega, by simp [sumI], ?_, ?_, (Below.refl _ w).alloc (Nat.le_refl _) _, by simp, by simp, by simp⟩
        · exact (Boxed.new w 2 _).cell
        · exact (Boxed.new w 2 _).frozen
      · rintro a wr ⟨i, Ds, z, v0, v1, v2, v3, v5, v6, v7, v8, v9, v10, v11, v12, v13, v14, v15, v16, v17, v18, v19, v20, v21, v22, v23, v24, v25, v26, v27, v28, v29, v30, v31, v32, v33, v34, v35, v36, v37, v38, v39, v40, v41, v42, v43, v44, v45, v46, v50, v51, v52, v53, v54, v55, v56, v57, v58, v59, v60, v61, v62, rfl, hi, hz, hc, hf, hB, hsz, hnd, hDs⟩
        by_cases hlt : i < n
        · have hltI : (i : Int) < n := by omega
          obtain ⟨ev, m, cl, hm1, hm4, hE, hoth, hcs⟩ := hEv i hlt
          have hE' := hE
          obtain ⟨⟨line, x, cn, cc, sv, rfl, -, -, -, -, hsv⟩, -⟩ := hE'
          obtain ⟨sa, sl, sc, rfl⟩ : ∃ sa sl sc, sv = .slice sa sl sc := by
            rcases hsv with ⟨h, -⟩ | ⟨b, bc, h, -⟩
            · exact ⟨_, _, _, h⟩
            · exact ⟨_, _, _, h⟩
          clear hsv
          have lE : E < w.heap.size := World.block_lt_of_cell? w _ (hcs 0 (by omega))
          have q0 := (hB.cell (p := ⟨E, i * 4 + 0, none⟩) lE).trans (hcs 0 (by omega))
          have q1 := (hB.cell (p := ⟨E, i * 4 + 1, none⟩) lE).trans (hcs 1 (by omega))
          have q2 := (hB.cell (p := ⟨E, i * 4 + 2, none⟩) lE).trans (hcs 2 (by omega))
          have q3 := (hB.cell (p := ⟨E, i * 4 + 3, none⟩) lE).trans (hcs 3 (by omega))
          simp only [Nat.add_zero, List.getElem?_toArray, List.getElem?_cons_zero, List.getElem?_cons_succ] at q0 q1 q2 q3
          gi_wp2
          refine ⟨trivial, ?_⟩
          refine (others_in Fence.wide 3 trivial trivial rfl (by omega) _ _ _ _ _).mono ?_
          rintro e w' ⟨rfl, rfl⟩
          gi_wp2
          have hothb : ∀ j, j < n → (0 : Int) ≤ (oth j : Int) ∧ (oth j : Int) ≤ 1000000 := fun j hj => by
            obtain ⟨ev', m', cl', _, h4', hE', ho', -⟩ := hEv j hj
            have := sumTo_le m' hE'.small
            omega
          have hob := sumI_bound (fun i => (oth i : Int)) 1000000 i (fun j hj => hothb j (by omega))
          obtain ⟨W4, hW4⟩ : ∃ W4, W4 = (((wr.alloc (.cells #[.int .i64 line, .pointer (some ⟨x, 0, none⟩), .slice (some ⟨cn, 0, none⟩) m cc, .slice sa sl sc] 40)).alloc (.cells #[.int .i64 line, .pointer (some ⟨x, 0, none⟩), .slice (some ⟨cn, 0, none⟩) m cc, .slice sa sl sc] 40)).alloc (.cells #[.int .i64 line, .pointer (some ⟨x, 0, none⟩), .slice (some ⟨cn, 0, none⟩) m cc, .slice sa sl sc] 40)).alloc (.cells #[.int .i64 1] 3) := ⟨_, rfl⟩
          rw [← hW4]
          obtain ⟨s4, h4e, h4f, h4g⟩ := four_allocs wr _ hW4
          have hB4 : Below w.heap.size w W4 := hB.grown h4g (by omega) (fun k e => by cases e)
          have hc4 : W4.cell? ⟨w.heap.size, 0, none⟩ = some (.int .i64 z) := cell_kept hc h4g (fun r e => by cases e)
          have hf4 : W4.frozen? ⟨w.heap.size, 0, none⟩ = false := (frozen_kept hc h4g (fun r e => by cases e)).trans hf
          have hD4 : ∀ D ∈ Ds, D < wr.heap.size ∧ W4.heap[D]? = some (.deferred (some [])) := fun D hD => by
            have h1 := (Array.getElem?_eq_some_iff.1 (hDs D hD).2).1
            exact ⟨h1, (h4g.block D h1 (by simp)).trans (hDs D hD).2⟩
          clear hW4 hf hc
          refine wpIn_rangeFunc_ownG rfl (by omega) (gf := 12) (lb := #[.pointer (some ⟨wr.heap.size + 1 + 1, 0, none⟩), .pointer (some ⟨wr.heap.size + 1 + 1 + 1, 0, none⟩)]) rfl trivial (enters_of Yba.func12 (by kernel_rfl) rfl)
            (others_stops 3 (by omega) w.heap.size (wr.heap.size + 2) (wr.heap.size + 3) w.heap.size _ m _ cl hm1 hm4 (by omega) W4 (by omega) (by omega) (by omega) (by omega) (Nat.le_refl _) (by omega) h4e h4f (hE.below hB4 (Nat.le_refl _)))
            KpN.trans (fun W l o o' _ h hc _ => KpN.grown (grownBy_putObj' W l o') (fun r e => by cases e; exact ⟨o, h, hc⟩)) (Below.refl _ _) (fun _ => rfl)
            (fun pre W => ((W.cell? ⟨w.heap.size, 0, none⟩ = some (.int .i64 (z - (sumE pre : Int))) ∧ W.frozen? ⟨w.heap.size, 0, none⟩ = false) ∧ Below w.heap.size w W) ∧ (w.heap.size < W.heap.size ∧ ∀ D ∈ Ds, W.heap[D]? = some (.deferred (some []))))
            (fun _ _ _ => False)
            (OwnFrom.and (OwnFrom.and (Own.from (fun s A B row hs hg hr => ⟨cell_kept hs.1 hg hr, (frozen_kept hs.1 hg hr).trans hs.2⟩) _) (ownFrom_below (Nat.le_refl _) (by omega)))
              (fun s A B row hs hg hr => ⟨Nat.lt_of_lt_of_le hs.1 hg.size, fun D hD => (hg.block D (Array.getElem?_eq_some_iff.1 (hs.2 D hD)).1 (fun e => by have h1 := (hr D e.symm).1; have h2 := (hD4 D hD).1; omega)).trans (hs.2 D hD)⟩))
            (fun _ _ _ _ _ hs _ _ => hs)
            ⟨⟨⟨by simpa [sumE] using hc4, hf4⟩, hB4⟩, by omega, fun D hD => (hD4 D hD).2⟩
            (fun y => { tmps := #[v0, v1, v2, v3, .pointer (some ⟨w.heap.size, 0, none⟩), v5, v6, v7, v8, .pointer (some ⟨wr.heap.size, 0, none⟩), v10, .int .u64 (y.1.2 : Int), v12, v13, v14, v15, v16, v17, v18, v19, v20, v21, v22, v23, v24, v25, v26, v27, v28, v29, v30, v31, v32, v33, v34, v35, v36, v37, v38, v39, v40, v41, v42, v43, v44, v45, v46, .slice (some ⟨E, 0, none⟩) n ec, .int .i64 (n : Int), .int .i64 (i : Int), .bool true, .pointer (some ⟨E, i * 4, none⟩), .agg #[.int .i64 line, .pointer (some ⟨x, 0, none⟩), .slice (some ⟨cn, 0, none⟩) m cc, .slice sa sl sc], .agg #[.int .i64 line, .pointer (some ⟨x, 0, none⟩), .slice (some ⟨cn, 0, none⟩) m cc, .slice sa sl sc], .func (.func 12) #[] #[.pointer (some ⟨wr.heap.size + 1 + 1, 0, none⟩), .pointer (some ⟨wr.heap.size + 1 + 1 + 1, 0, none⟩)], .int .i32 y.1.1, .int .u64 (y.1.2 : Int), v57, v58, v59, v60, v61, v62], defers := [] }) ?assign ?body ?done ?stop
          case assign =>
            intro l x W K hK
            dsimp only [encE]
            gi_wp2
            exact hK
          case body =>
            rintro l pre ⟨⟨xi, xn⟩, hx⟩ W ⟨⟨⟨hc, hf⟩, hB5⟩, hs5, hd5⟩ hpl
            have hse := sumE_le pre
            obtain ⟨zz, hzz⟩ : ∃ zz, zz = z - (sumE pre : Int) := ⟨_, rfl⟩
            rw [← hzz] at hc
            have hx' : xn ≤ 1000 := hx
            have hb1 : zz ≤ 79800 := by omega
            have hb2 : -500000000 ≤ zz := by omega
            have e : zH - sumI (fun i => (oth i : Int)) i - (sumE pre : Int) - (xn : Int) = z - ((sumE (pre ++ [⟨(xi, xn), hx⟩]) : Nat) : Int) := by
              rw [sumE_snoc]
              simp only
              omega
            gi_wp2
            rw [← hz]
            exact ⟨(KeepsOthers.setCell _ _ _).from _, KpN.set _ _ _, ⟨⟨World.cell?_setCell_same' _ _ _ (by rw [hc]; rfl), by rw [World.frozen?_setCell]; exact hf⟩, hB5.setCell (p := ⟨w.heap.size, 0, none⟩) (Nat.le_refl _) _⟩,
              by simpa using hs5, fun D hD => (KeepsOthers.setCell _ _ _).same D _ (hd5 D hD) rfl⟩
          case done =>
            rintro D ys W hD hsum ⟨⟨⟨hc, hf⟩, hB5⟩, hs5, hd5⟩ hK
            have e1 : z - (sumE ys : Int) = zH - sumI (fun i => (oth i : Int)) (i + 1) := by
              have h1 : sumE ys = oth i := hsum.trans hoth
              simp only [sumI]
              omega
            gi_wp2
            refine ⟨⟨i + 1, D :: Ds, z - (sumE ys : Int), _, _, _, _, _, _, _, _, _, _, _, _, _, _, _, _, _, _, _, _, _, _, _, _, _, _, _, _, _, _, _, _, _, _, _, _, _, _, _, _, _, _, _, _, _, _, _, _, _, _, _, _, _, _, _, _, _, _, _, rfl, by omega, e1, hc, hf, hB5, hs5, ?_, ?_⟩, ?_⟩
            · exact List.nodup_cons.2 ⟨fun h => by have := (hD4 D h).1; omega, hnd⟩
            · intro D' hD'
              rcases List.mem_cons.1 hD' with rfl | h
              · exact ⟨by omega, hK⟩
              · exact ⟨(hDs D' h).1, hd5 D' h⟩
            · show n - ((i : Int) + 1).toNat < n - (i : Int).toNat
              omega
          case stop =>
            rintro D c pre W _ _ h _
            exact h.elim
        · obtain rfl : i = n := by omega
          gi_wp2
          refine leave_marks w.heap.size Ds wr hnd hDs (fun W' hW' => ⟨_, results_tmp rfl _ _ _, ?_, hB.trans hW'⟩)
          rw [← hzH]
          rfl
end Go.Proofs.Ybulkcubo
