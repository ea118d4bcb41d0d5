/-
  The walk of ring.LawS4780BFifo.
-/
import Derived.Test.YbulkctywRingCapWalk
import Derived.Lib.JoinLaws
import Derived.Deep.CutBlock
import Derived.Maps.AppendAt
namespace Go.Proofs.Ybulkctyw
open Go.RowKit

/-- The law's own memory: the ring at block B, the model's row at block B + 1: its values lie from place s on. -/
structure Fifo (w0 : World) (N : Nat) (wr : World) (o : Option Nat) (c h : Nat) (q : List Int) (s : Nat) (ms : List Value) : Prop where
  ring : Rg wr w0.heap.size o c h q
  far : ∀ g, o = some g → w0.heap.size + 1 < g
  row : wr.heap[w0.heap.size + 1]? = some (.cells ms.toArray 3 (0, 0))
  len : ms.length = N
  held : ∀ i, i < q.length → ms[s + i]? = some (.int .i64 (q.getD i 0))
  below : Below w0.heap.size w0 wr

theorem Fifo.lt {w0 : World} {N : Nat} {wr : World} {o : Option Nat} {c h : Nat} {q : List Int} {s : Nat} {ms : List Value} (f : Fifo w0 N wr o c h q s ms) : w0.heap.size + 1 < wr.heap.size := lt_of_block f.row

theorem Fifo.kept {w0 : World} {N : Nat} {wr w1 : World} {o : Option Nat} {c h : Nat} {q : List Int} {s : Nat} {ms : List Value} (f : Fifo w0 N wr o c h q s ms) (hb : Below wr.heap.size wr w1) : Fifo w0 N w1 o c h q s ms := by
  have hl := f.lt
  exact ⟨f.ring.same (hb.block _ (by omega)) (fun g e => hb.block _ (f.ring.lt g e)), f.far, (hb.block _ hl).trans f.row, f.len, f.held, f.below.trans (hb.mono (by omega))⟩

theorem Fifo.row_kept {w0 : World} {N : Nat} {w1 w2 : World} {o : Option Nat} {c h : Nat} {q : List Int} {s : Nat} {ms : List Value} (f : Fifo w0 N w1 o c h q s ms) (hk : KeptBut (fun j => j = w0.heap.size ∨ o = some j) w1 w2) :
    w2.heap[w0.heap.size + 1]? = some (.cells ms.toArray 3 (0, 0)) := by
  have hl := f.lt
  rw [hk.block _ hl ?_]
  · exact f.row
  · rintro (e | e)
    · omega
    · have := f.far _ e; omega

/-- A push, and then an append to the model. -/
theorem Fifo.push {w0 : World} {N : Nat} {w1 w2 w3 : World} {o o' : Option Nat} {c h c' h' : Nat} {q : List Int} {v : Int} {s : Nat} {ms : List Value} (f : Fifo w0 N w1 o c h q s ms) (hR : Rg w2 w0.heap.size o' c' h' (q ++ [v]))
    (ho : o' = o ∨ o' = some w1.heap.size) (hk : KeptBut (fun j => j = w0.heap.size ∨ o = some j) w1 w2) (h3 : Below w2.heap.size w2 w3) (hroom : s + q.length < N) :
    Fifo w0 N (w3.setCell ⟨w0.heap.size + 1, s + q.length, none⟩ (.int .i64 v)) o' c' h' (q ++ [v]) s (ms.set (s + q.length) (.int .i64 v)) := by
  have hl := f.lt
  have s1 := hk.size
  have s2 := h3.size
  have hfar : ∀ g, o' = some g → w0.heap.size + 1 < g := by
    intro g e
    rcases ho with rfl | rfl
    · exact f.far g e
    · injection e with e; omega
  have hrow2 : w2.heap[w0.heap.size + 1]? = some (.cells ms.toArray 3 (0, 0)) := by
    rw [hk.block _ hl ?_]
    · exact f.row
    · rintro (e | e)
      · omega
      · have := f.far _ e; omega
  have hrow3 : w3.heap[w0.heap.size + 1]? = some (.cells ms.toArray 3 (0, 0)) := (h3.block _ (by omega)).trans hrow2
  refine ⟨?_, hfar, ?_, by simpa using f.len, ?_, ?_⟩
  · refine hR.same ?_ (fun g e => ?_)
    · rw [Below.heap_setCell _ _ _ _ (by show w0.heap.size ≠ w0.heap.size + 1; omega)]
      exact h3.block _ (by omega)
    · have := hfar g e
      rw [Below.heap_setCell _ _ _ _ (by show g ≠ w0.heap.size + 1; omega)]
      exact h3.block _ (hR.lt g e)
  · rw [heap_setCell_same w3 _ _ _ 3 (.int .i64 v) hrow3]
    simp
  · intro i hi
    simp only [List.length_append, List.length_cons, List.length_nil] at hi
    by_cases e : i = q.length
    · subst e
      rw [List.getElem?_set_self (by rw [f.len]; omega)]
      simp
    · rw [List.getElem?_set_ne (by omega), f.held i (by omega)]
      congr 2
      simp only [List.getD_eq_getElem?_getD]
      rw [List.getElem?_append_left (by omega)]
  · refine Below.setCell (p := ⟨w0.heap.size + 1, _, none⟩) ?_ (by show w0.heap.size ≤ w0.heap.size + 1; omega) _
    refine (hk.below f.below (by omega) ?_).trans (h3.mono (by omega))
    rintro j hj (e | e)
    · omega
    · have := f.far _ e; omega

/-- A pop: the model steps one place on. -/
theorem Fifo.pop {w0 : World} {N : Nat} {w1 w2 : World} {g : Nat} {o' : Option Nat} {c h c' h' : Nat} {q : List Int} {x : Int} {s : Nat} {ms : List Value} (f : Fifo w0 N w1 (some g) c h (x :: q) s ms) (hR : Rg w2 w0.heap.size o' c' h' q)
    (ho : o' = some g ∨ o' = some w1.heap.size) (hk : KeptBut (fun j => j = w0.heap.size ∨ j = g) w1 w2) : Fifo w0 N w2 o' c' h' q (s + 1) ms := by
  have hl := f.lt
  have hgg := f.far g rfl
  refine ⟨hR, ?_, ?_, f.len, fun i hi => ?_, ?_⟩
  · intro g' e
    rcases ho with rfl | rfl
    · injection e with e; omega
    · injection e with e; omega
  · rw [hk.block _ hl ?_]
    · exact f.row
    · rintro (e | e) <;> omega
  · have := f.held (i + 1) (by simp; omega)
    rw [show s + 1 + i = s + (i + 1) from by omega, this]
    rfl
  · refine hk.below f.below (by omega) ?_
    rintro j hj (e | e) <;> omega

theorem Fifo.cell {w0 : World} {N : Nat} {wr : World} {o : Option Nat} {c h : Nat} {q : List Int} {s : Nat} {ms : List Value} (f : Fifo w0 N wr o c h q s ms) {i : Nat} (hi : i < q.length) : wr.cell? ⟨w0.heap.size + 1, s + i, none⟩ = some (.int .i64 (q.getD i 0)) := by
  rw [cell_of_row wr _ _ _ _ _ f.row]
  simpa using f.held i hi

theorem Fifo.some {w0 : World} {N : Nat} {wr : World} {o : Option Nat} {c h : Nat} {x : Int} {q : List Int} {s : Nat} {ms : List Value} (f : Fifo w0 N wr o c h (x :: q) s ms) : ∃ g, o = .some g := by
  obtain ⟨_, ⟨_, _, _, h1⟩ | ⟨g, h1, _⟩⟩ := f.ring
  · cases h1
  · exact ⟨g, h1⟩

set_option maxHeartbeats 2000000 in
theorem fifo_walk (a : Option Addr) (len cap b off : Nat) (OP AA : Nat → Int) (w : World) (hl : len ≤ 1024) (hS : Steps w a len cap b off OP AA) :
    Calls Yba.prog 5 #[.slice a len cap] w fun e w' => e = .returned (.bool true) ∧ Below w.heap.size w w' := by
  obtain ⟨hcell, hidx⟩ := hS
  have hmk := run_make_room (P := Yba.prog) 42 3 (.int .i64 0) 8 Yba.underlying42 info3 rfl .i64 .i64 len (by omega) (by omega)
  obtain ⟨Z, hZ, hZl⟩ := made_list len
  rw [← hZ] at hmk
  clear hZ
  have HZ : Hid (Z.length = len) := hZl
  clear hZl
  go_enter Yba.func5, Yba.ntmps5
  go_upto_block 0 with fail
  go_cut [4] from 20 to 68 (fun s4 wr => ∃ (o : Option Nat) (c h : Nat) (q : List Int) (s : Nat) (ms : List Value), s4 = .slice (some ⟨w.heap.size + 1, s, none⟩) q.length (len - s) ∧ s + q.length ≤ len ∧ Fifo w len wr o c h q s ms)
  case first =>
    go_wp2
    go_loopw [4, 5] (fun s4 s5 wr => ∃ (k : Nat) (o : Option Nat) (c h : Nat) (q : List Int) (s : Nat) (ms : List Value), k ≤ len ∧ s5 = .int .i64 k ∧ s4 = .slice (some ⟨w.heap.size + 1, s, none⟩) q.length (len - s) ∧ 2 * s + q.length ≤ k ∧ c ≤ 2 * k + 16 ∧ Fifo w len wr o c h q s ms) (fun _ s5 _ => len - (intOf s5).toNat)
    case atStart =>
      refine ⟨0, none, 0, 0, [], 0, Z, Nat.zero_le _, rfl, rfl, Nat.le_refl _, by omega, ?_⟩
      exact ⟨(Rg.start w).alloc _, fun _ h => (by cases h), heap_alloc2_new _ _ _, HZ.out, fun i hi => absurd hi (by simp), ((Below.refl _ _).alloc (Nat.le_refl _) _).alloc (by simp) _⟩
    case round =>
      obtain ⟨k, o, c, h, q, s, ms, hk, rfl, rfl, hsk, hck, hst⟩ := hrel
      by_cases hlt : k < len
      · obtain ⟨hb, e1, e2, hw⟩ := hcell k hlt
        have hi := fun W => hidx k W hlt
        generalize OP k = op at e1 hw
        generalize AA k = v at e2
        obtain ⟨hz1, hz2⟩ := bounds_u8 hw
        have r1 : wr.cell? ⟨b, off + k * 2, none⟩ = some (.int .u8 op) := (hst.below.cell (p := ⟨b, off + k * 2, none⟩) hb).trans e1
        have r2 : wr.cell? ⟨b, off + k * 2 + 1, none⟩ = some (.int .i64 v) := (hst.below.cell (p := ⟨b, off + k * 2 + 1, none⟩) hb).trans e2
        clear e1 e2 hcell hidx hw hk hmk
        have hsz := hst.lt
        by_cases hop : op % 3 = 0
        · have hop2 : (op % 3 != 0) = false := by simp; omega
          have hst1 := hst.kept ((Below.refl _ _).alloc (Nat.le_refl _) (.cells #[.int .u8 op, .int .i64 v] 46))
          clear hop
          cases q with
          | nil =>
            clear hst
            go_wp2_with fail
            refine (pop_none w.heap.size o c h _ hst1.ring).mono ?_
            rintro e w2 ⟨rfl, hw2⟩
            rw [← hw2] at hst1
            clear hw2 hi r1 r2
            have hR3 := hst1.ring
            go_wp2_with (go_at_call 13; refine (len_any _ _ _ _ _ _ hR3).mono ?_; rintro e w' ⟨rfl, rfl⟩)
            go_roundw
            case rel => exact ⟨k + 1, o, c, h, [], s, ms, by omega, by go_num, rfl, by simp at hsk ⊢; omega, by omega, hst1⟩
            case measure => simp [intOf]; omega
          | cons x t =>
            simp only [List.length_cons] at hsk
            obtain ⟨g, rfl⟩ := hst.some
            clear hst
            go_wp2_with fail
            refine (pop_some w.heap.size g c h x t _ hst1.ring).mono ?_
            rintro e w2 ⟨rfl, o', h', hR', ho', hk'⟩
            have hrow2 := hst1.row_kept (hk'.mono fun _ _ e => e.imp id (fun e => by rw [e]))
            have hx0 : w2.cell? ⟨w.heap.size + 1, s, none⟩ = some (.int .i64 x) := by
              rw [cell_of_row w2 _ _ _ _ _ hrow2]
              simpa using hst1.held 0 (by simp)
            have hst3 := hst1.pop hR' ho' hk'
            have hR3 := hst3.ring
            have hcb : popCap c t.length ≤ 2 * (k + 1) + 16 := by unfold popCap; split <;> omega
            have hcut1 : ¬ len - s = 1 := by omega
            have hcut2 : 1 ≤ len - s := by omega
            clear hi r1 r2 hrow2 hst1 hR' ho' hk'
            go_wp2_with (go_at_call 13; refine (len_any _ _ _ _ _ _ hR3).mono ?_; rintro e w' ⟨rfl, rfl⟩)
            go_roundw
            case rel => exact ⟨k + 1, o', _, h', t, s + 1, ms, by omega, by go_num, by rw [Nat.sub_sub], by omega, hcb, hst3⟩
            case measure => simp [intOf]; omega
        · have hop2 : (op % 3 != 0) = true := by simp; omega
          have hst1 := hst.kept ((Below.refl _ _).alloc (Nat.le_refl _) (.cells #[.int .u8 op, .int .i64 v] 46))
          go_wp2_with fail
          refine (push_any w.heap.size o c h q v _ hst1.ring (by omega)).mono ?_
          rintro e w2 ⟨rfl, o', h', hR', ho', hk'⟩
          have hs2 := hk'.size
          simp only [World.size_alloc] at hs2
          have hbox : w2.cell? ⟨wr.heap.size, 1, none⟩ = some (.int .i64 v) := by
            refine (World.cell?_of_block (a := ⟨wr.heap.size, 1, none⟩) (hk'.block wr.heap.size (by simp) ?_)).trans (by simp)
            rintro (e | e)
            · omega
            · have := hst.ring.lt _ e; omega
          have hrow2 := hst1.row_kept hk'
          have hc3 : ∃ u, w2.cell? ⟨w.heap.size + 1, s + q.length, none⟩ = some u := by
            rw [cell_of_row w2 _ _ _ _ _ hrow2]
            exact ⟨ms[s + q.length]'(by rw [hst.len]; omega), by simp⟩
          obtain ⟨u, hc3⟩ := hc3
          have hf3 : w2.frozen? ⟨w.heap.size + 1, s + q.length, none⟩ = false := frozen_of_row w2 _ _ _ _ hrow2
          have hlt2 : w.heap.size + 1 < w2.heap.size := by omega
          have hst3 := (hst1.push hR' ho' hk' (Below.refl _ _) (by omega)).kept ((Below.refl _ _).alloc (Nat.le_refl _) (.cells #[.int .i64 v] 3))
          have hcb : pushCap c q.length ≤ 2 * (k + 1) + 16 := by unfold pushCap; split <;> omega
          have hR3 := hst3.ring
          have hroom : q.length + 1 ≤ len - s := by omega
          clear hi r1 r2 hrow2 hst hst1 hR' ho' hk'
          go_wp2_with (go_at_call 13; refine (len_any _ _ _ _ _ _ hR3).mono ?_; rintro e w' ⟨rfl, rfl⟩)
          go_roundw
          case rel => exact ⟨k + 1, o', _, h', q ++ [v], s, _, by omega, by go_num, by simp, by simp; omega, hcb, hst3⟩
          case measure => simp [intOf]; omega
      · clear hcell hidx hmk
        go_wp2
        go_meet
        case rel => exact ⟨o, c, h, q, s, ms, rfl, by omega, hst⟩
  case rest =>
    clear hmk hcell hidx
    obtain ⟨o, c, h, q, s, ms, rfl, hsl, hst⟩ := hcut
    have hq : q.length ≤ 1024 := by omega
    go_wp2
    go_loopw [9] (fun s9 wr => ∃ (j : Nat) (o : Option Nat) (c h : Nat), j ≤ q.length ∧ s9 = .int .i64 j ∧ Fifo w len wr o c h (q.drop j) (s + j) ms) (fun s9 _ => q.length - (intOf s9).toNat)
    case atStart => exact ⟨0, o, c, h, Nat.zero_le _, rfl, by simpa using hst⟩
    case round =>
      clear hst
      obtain ⟨j, o, c, h, hj, rfl, hst⟩ := hrel
      by_cases hlt : j < q.length
      · obtain ⟨x, t, hxt⟩ : ∃ x t, q.drop j = x :: t := ⟨q[j], q.drop (j + 1), List.drop_eq_getElem_cons hlt⟩
        have ht : t = q.drop (j + 1) := by
          have := congrArg List.tail hxt
          simpa using this.symm
        have hst1 := hst
        rw [hxt] at hst1
        obtain ⟨g, rfl⟩ := hst1.some
        have HT : Hid (t = q.drop (j + 1)) := ht
        clear hst ht hxt
        go_wp2_with fail
        refine (pop_some w.heap.size g c h x t _ hst1.ring).mono ?_
        rintro e w2 ⟨rfl, o', h', hR', ho', hk'⟩
        have hrow2 := hst1.row_kept (hk'.mono fun _ _ e => e.imp id (fun e => by rw [e]))
        have hx0 : w2.cell? ⟨w.heap.size + 1, s + j, none⟩ = some (.int .i64 x) := by
          rw [cell_of_row w2 _ _ _ _ _ hrow2]
          simpa using hst1.held 0 (by simp)
        have hst3 := hst1.pop hR' ho' hk'
        clear hrow2 hst1 hR' ho' hk'
        go_wp2
        go_roundw
        case rel => exact ⟨j + 1, o', _, h', by omega, by go_num, by rw [← HT.out]; exact hst3⟩
        case measure => simp [intOf]; omega
      · have hnil : q.drop j = [] := List.drop_eq_nil_of_le (by omega)
        rw [hnil] at hst
        have hR := hst.ring
        have hbel := hst.below
        clear hnil hst
        go_wp2_with fail
        refine (pop_none w.heap.size o c h _ hR).mono ?_
        rintro e w2 ⟨rfl, hw2⟩
        rw [← hw2] at hR hbel
        clear hw2
        go_wp2_with (go_at_call 13; refine (len_any _ _ _ _ _ _ hR).mono ?_; rintro e w' ⟨rfl, rfl⟩)
        go_ret
        exact ⟨rfl, hbel⟩

theorem fifo_long (a : Option Addr) (len cap : Nat) (w : World) (_h : ¬ len ≤ 1024) :
    Calls Yba.prog 5 #[.slice a len cap] w fun e w' => e = .returned (.bool true) ∧ Below w.heap.size w w' := by
  go_enter Yba.func5, Yba.ntmps5
  go_wp2
  go_ret
  exact ⟨rfl, Below.refl _ _⟩
end Go.Proofs.Ybulkctyw
