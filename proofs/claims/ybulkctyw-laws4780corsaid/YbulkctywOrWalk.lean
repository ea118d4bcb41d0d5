/-
  The walk of keymap.LawS4780COr.
-/
import Derived.Test.YbulkctywOrState
import Derived.Deep.DeepCutAuto
import Derived.Deep.CutBlock
namespace Go.Proofs.Ybulkctyw
open Go.RowKit Go.Maps

theorem cells5 : Yba.prog.cellsOf 5 = 1 := by kernel_rfl
theorem cells54 : Yba.prog.cellsOf 54 = 1 := by kernel_rfl
theorem isz5 : (Yba.prog.info? 5).map (fun j => j.size) = some 1 := by kernel_rfl
theorem isz54 : (Yba.prog.info? 54).map (fun j => j.size) = some 1 := by kernel_rfl

theorem St.start (w : World) : St w.heap.size w ((((w.alloc (.cells #[.bool false, .bool false, .bool false, .bool false, .bool false, .bool false, .bool false, .bool false, .bool false, .bool false, .bool false, .bool false, .bool false, .bool false, .bool false, .bool false] 55)).alloc
    (.cells #[.bool false, .bool false, .bool false, .bool false, .bool false, .bool false, .bool false, .bool false, .bool false, .bool false, .bool false, .bool false, .bool false, .bool false, .bool false, .bool false] 55)).alloc
    (.cells #[.int .u16 0, .int .u16 0, .int .u16 0, .int .u16 0, .int .u16 0, .int .u16 0, .int .u16 0, .int .u16 0, .int .u16 0, .int .u16 0, .int .u16 0, .int .u16 0, .int .u16 0, .int .u16 0, .int .u16 0, .int .u16 0] 56)).alloc
    (.cells #[.int .u16 0, .int .u16 0, .int .u16 0, .int .u16 0, .int .u16 0, .int .u16 0, .int .u16 0, .int .u16 0, .int .u16 0, .int .u16 0, .int .u16 0, .int .u16 0, .int .u16 0, .int .u16 0, .int .u16 0, .int .u16 0] 56))
    none none (fun _ => none) (fun _ => none) := by
  refine ⟨?_, ?_, ?_, ?_, .inl ⟨rfl, fun _ _ => rfl⟩, .inl ⟨rfl, fun _ _ => rfl⟩, fun _ h => (by cases h), fun _ h => (by cases h), fun _ h => (by cases h), fun _ _ => .inl rfl, ?_⟩
  · show ((((w.heap.push _).push _).push _).push _)[w.heap.size]? = _
    simp only [Array.getElem?_push, Array.size_push]
    rw [if_neg (by omega), if_neg (by omega), if_neg (by omega), if_pos trivial]; rfl
  · show ((((w.heap.push _).push _).push _).push _)[w.heap.size + 1]? = _
    simp only [Array.getElem?_push, Array.size_push]
    rw [if_neg (by omega), if_neg (by omega), if_pos trivial]; rfl
  · show ((((w.heap.push _).push _).push _).push _)[w.heap.size + 1 + 1]? = _
    simp only [Array.getElem?_push, Array.size_push]
    rw [if_neg (by omega), if_pos trivial]; rfl
  · show ((((w.heap.push _).push _).push _).push _)[w.heap.size + 1 + 1 + 1]? = _
    simp only [Array.getElem?_push, Array.size_push]
    rw [if_pos trivial]; rfl
  · exact ((((Below.refl _ w).alloc (Nat.le_refl _) _).alloc (by simp) _).alloc (by simp; omega) _).alloc (by simp; omega) _

/-- 'mm = make(..)'. -/
theorem St.makeM {B : Nat} {w0 w : World} {f g : KM} (h : St B w0 w none none f g) : St B w0 (w.alloc (.map #[] 0)) (some w.heap.size) none f g := by
  have k := h.kept ((Below.refl _ w).alloc (Nat.le_refl _) (.map #[] 0))
  have hf : ∀ k, k < 16 → f k = none := by
    rcases h.mm with ⟨_, h1⟩ | ⟨b, h1, _⟩
    · exact h1
    · cases h1
  refine ⟨k.inM, k.inO, k.vM, k.vO, .inr ⟨_, rfl, (Om.made w).congr fun j hj => (hf j hj).symm⟩, k.om, fun b e => ?_, k.bO, fun b _ e => (by cases e), k.dis, k.below⟩
  have := h.lt
  injection e with e
  omega

/-- 'om = make(..)'. -/
theorem St.makeO {B : Nat} {w0 w : World} {mM : Option Nat} {f g : KM} (h : St B w0 w mM none f g) : St B w0 (w.alloc (.map #[] 0)) mM (some w.heap.size) f g := by
  have k := h.kept ((Below.refl _ w).alloc (Nat.le_refl _) (.map #[] 0))
  have hg : ∀ k, k < 16 → g k = none := by
    rcases h.om with ⟨_, h1⟩ | ⟨b, h1, _⟩
    · exact h1
    · cases h1
  refine ⟨k.inM, k.inO, k.vM, k.vO, k.mm, .inr ⟨_, rfl, (Om.made w).congr fun j hj => (hg j hj).symm⟩, k.bM, fun b e => ?_, fun b e e2 => ?_, k.dis, k.below⟩
  · have := h.lt
    injection e with e
    omega
  · have := h.mm.lt b e
    injection e2 with e2
    omega

theorem cnt_hit {f : KM} {n : Nat} {v : Int} (h : f n = some v) : ((cnt f n : Nat) : Int) + 1 = ((cnt f (n + 1) : Nat) : Int) := by
  simp only [cnt, h]; simp
theorem cnt_miss {f : KM} {n : Nat} (h : f n = none) : ((cnt f n : Nat) : Int) = ((cnt f (n + 1) : Nat) : Int) := by
  simp only [cnt, h]; simp
theorem val_int {k : IntKind} {a b : Int} (h : a = b) : Value.int k a = .int k b := by rw [h]

set_option maxRecDepth 100000 in
set_option maxHeartbeats 2000000 in
theorem or_main (a0 : Option Addr) (len0 cap0 : Nat) (z0 : List Int) (a1 : Option Addr) (len1 cap1 : Nat) (z1 : List Int) (a2 : Option Addr) (len2 cap2 : Nat) (z2 : List Int) (a3 : Option Addr) (len3 cap3 : Nat) (z3 : List Int) (a4 : Bool) (a5 : Int) (a6 : Int) (a7 : Int) (a8 : Int) (w : World)
    (b0 o0 b1 o1 b2 o2 b3 o3 : Nat)
    (l0 : len0 ≤ 1024) (l2 : len2 ≤ 1024) (_hl1 : len1 ≤ 9223372036854775807) (_hl3 : len3 ≤ 9223372036854775807)
    (c0 : ∀ i : Nat, i < len0 → b0 < w.heap.size ∧ w.cell? ⟨b0, o0 + i, none⟩ = some (.int .u8 (z0.getD i 0)) ∧ (Lit.int .u8 (z0.getD i 0)).wf = true)
    (i0 : ∀ (i : Nat) (W : World), i < len0 → Sem.run Yba.prog (Instr.indexAt 52 (.slice a0 len0 cap0) (.int .i64 (i : Int))) W = .ok (.pointer (some ⟨b0, o0 + i, none⟩)) W)
    (c1 : ∀ i : Nat, i < len1 → b1 < w.heap.size ∧ w.cell? ⟨b1, o1 + i, none⟩ = some (.int .u16 (z1.getD i 0)) ∧ (Lit.int .u16 (z1.getD i 0)).wf = true)
    (i1 : ∀ (i : Nat) (W : World), i < len1 → Sem.run Yba.prog (Instr.indexAt 53 (.slice a1 len1 cap1) (.int .i64 (i : Int))) W = .ok (.pointer (some ⟨b1, o1 + i, none⟩)) W)
    (c2 : ∀ i : Nat, i < len2 → b2 < w.heap.size ∧ w.cell? ⟨b2, o2 + i, none⟩ = some (.int .u8 (z2.getD i 0)) ∧ (Lit.int .u8 (z2.getD i 0)).wf = true)
    (i2 : ∀ (i : Nat) (W : World), i < len2 → Sem.run Yba.prog (Instr.indexAt 52 (.slice a2 len2 cap2) (.int .i64 (i : Int))) W = .ok (.pointer (some ⟨b2, o2 + i, none⟩)) W)
    (c3 : ∀ i : Nat, i < len3 → b3 < w.heap.size ∧ w.cell? ⟨b3, o3 + i, none⟩ = some (.int .u16 (z3.getD i 0)) ∧ (Lit.int .u16 (z3.getD i 0)).wf = true)
    (i3 : ∀ (i : Nat) (W : World), i < len3 → Sem.run Yba.prog (Instr.indexAt 53 (.slice a3 len3 cap3) (.int .i64 (i : Int))) W = .ok (.pointer (some ⟨b3, o3 + i, none⟩)) W)
    (w5 : (Lit.int .u8 a5).wf = true) :
    Calls Yba.prog 7 #[.slice a0 len0 cap0, .slice a1 len1 cap1, .slice a2 len2 cap2, .slice a3 len3 cap3, .bool a4, .int .u8 a5, .int .u16 a6, .int .i64 a7, .int .i64 a8] w fun e w' => e = .returned (.bool true) ∧ Below w.heap.size w w' := by
  have hmm := @run_makeMap Yba.prog
  go_enter Yba.func7, Yba.ntmps7
  go_upto_region 6 with (fail)
  go_cut [0, 59] from 45 to 59 (fun s0 s59 wr => s0 = .slice a0 len0 cap0 ∧ (∃ t, s59 = .bool t ∧ (t = false → len0 = 0)) ∧ St w.heap.size w wr none none (fun _ => none) (fun _ => none))
  case first =>
    go_wp2
    · have h0 : len0 = 0 := by assumption
      go_meet
      case rel => exact ⟨by rw [h0], ⟨_, rfl, fun _ => h0⟩, St.start w⟩
    · go_meet
      case rel => exact ⟨rfl, ⟨_, rfl, fun h => by cases h⟩, St.start w⟩
  case rest =>
    obtain ⟨rfl, ⟨t, rfl, ht⟩, hst⟩ := hcut
    have HT : Hid (t = false → len0 = 0) := ht
    clear ht
    go_upto_if 59 with (fail)
    go_cut [23] from 59 to 60 (fun m wr => ∃ mM, m = .map mM ∧ (mM = none → len0 = 0) ∧ St w.heap.size w wr mM none (fun _ => none) (fun _ => none))
    case first =>
      clear c0 c1 c2 c3 i0 i1 i2 i3
      cases t
      · go_wp2
        go_meet
        case rel => exact ⟨none, rfl, fun _ => HT.out (by first | rfl | trivial), hst⟩
      · go_wp2
        go_meet
        case rel => exact ⟨some _, rfl, fun h => (by cases h), hst.makeM⟩
    case rest =>
      clear hst HT t
      obtain ⟨mM, rfl, hmM, hst⟩ := hcut
      go_upto_block 0 with fail
      go_cut [24] from 61 to 87 (fun _ wr => ∃ f, St w.heap.size w wr mM none f (fun _ => none))
      case first =>
        clear c2 c3 i2 i3 w5
        go_wp2
        go_loopw [24] (fun i wr => ∃ (n : Nat) (f : KM), i = .int .i64 n ∧ n ≤ len0 ∧ St w.heap.size w wr mM none f (fun _ => none)) (fun i _ => len0 - (intOf i).toNat)
        case atStart => exact ⟨0, _, rfl, Nat.zero_le _, hst⟩
        case round =>
          clear hst
          obtain ⟨n, f, rfl, hn, hst⟩ := hrel
          by_cases hlt : n < len0
          · obtain ⟨bm, rfl⟩ : ∃ bm, mM = some bm := by
              cases mM with
              | none => exact absurd (hmM rfl) (by omega)
              | some b => exact ⟨b, rfl⟩
            obtain ⟨hb0, hc0, hw0⟩ := c0 n hlt
            have hi0 := fun W => i0 n W hlt
            generalize z0.getD n 0 = z at hc0 hw0
            have hz := bounds_u8 hw0
            obtain ⟨hz1, hz2⟩ := hz
            obtain ⟨kk, hkk⟩ : ∃ kk : Nat, z % 16 = (kk : Int) := ⟨(z % 16).toNat, by omega⟩
            have hk16 : kk < 16 := by omega
            have hcw : wr.cell? ⟨b0, o0 + n, none⟩ = some (.int .u8 z) := (hst.below.cell (p := ⟨b0, o0 + n, none⟩) hb0).trans hc0
            obtain ⟨e1, e2, e3, e4⟩ := hst.cells hk16
            obtain ⟨q1, q2, q3, q4⟩ := hst.free kk
            clear hc0 hw0 c0 i0 hmM hn
            by_cases hlt1 : n < len1
            · obtain ⟨hb1, hc1, hw1⟩ := c1 n hlt1
              have hi1 := fun W => i1 n W hlt1
              generalize z1.getD n 0 = v at hc1 hw1
              have hcv : wr.cell? ⟨b1, o1 + n, none⟩ = some (.int .u16 v) := (hst.below.cell (p := ⟨b1, o1 + n, none⟩) hb1).trans hc1
              clear hc1 c1 i1
              obtain ⟨w', hrun, hst'⟩ := hst.putM hk16 rfl hw1
              clear hst e2 e4 hw1
              go_wp2
              go_roundw
              case rel => exact ⟨n + 1, _, by go_num, by omega, hst'⟩
              case measure => simp [intOf]; omega
            · obtain ⟨w', hrun, hst'⟩ := hst.putM hk16 rfl (v := 0) (by decide)
              clear hst e2 e4 c1 i1
              go_wp2
              go_roundw
              case rel => exact ⟨n + 1, _, by go_num, by omega, hst'⟩
              case measure => simp [intOf]; omega
          · clear c0 c1 i0 i1 hmM
            go_wp2
            go_meet
            case rel => exact ⟨f, hst⟩
      case rest =>
        clear hst hmM
        obtain ⟨f, hst⟩ := hcut
        clear c0 c1 i0 i1
        have hnn := fun w => run_neq_slice_nil_any (P := Yba.prog) w 52 5 a2 len2 cap2 0 0 Yba.underlying52
        go_upto_if 89 with fail
        go_cut [27] from 88 to 120 (fun m wr => ∃ mO g, m = .map mO ∧ St w.heap.size w wr mM mO f g)
        case first =>
          cases a2 with
          | none =>
            go_wp2
            go_meet
            case rel => exact ⟨none, _, rfl, hst⟩
          | some x2 =>
            go_wp2
            go_loopw [28] (fun i wr => ∃ (n : Nat) (g : KM), i = .int .i64 n ∧ n ≤ len2 ∧ St w.heap.size w wr mM (some wc.heap.size) f g) (fun i _ => len2 - (intOf i).toNat)
            case atStart => exact ⟨0, _, rfl, Nat.zero_le _, hst.makeO⟩
            case round =>
              clear hst
              obtain ⟨n, g, rfl, hn, hst⟩ := hrel
              by_cases hlt : n < len2
              · obtain ⟨hb2, hc2, hw2⟩ := c2 n hlt
                have hi2 := fun W => i2 n W hlt
                generalize z2.getD n 0 = z at hc2 hw2
                obtain ⟨hz1, hz2⟩ := bounds_u8 hw2
                obtain ⟨kk, hkk⟩ : ∃ kk : Nat, z % 16 = (kk : Int) := ⟨(z % 16).toNat, by omega⟩
                have hk16 : kk < 16 := by omega
                have hcw : wr.cell? ⟨b2, o2 + n, none⟩ = some (.int .u8 z) := (hst.below.cell (p := ⟨b2, o2 + n, none⟩) hb2).trans hc2
                obtain ⟨e1, e2, e3, e4⟩ := hst.cells hk16
                obtain ⟨q1, q2, q3, q4⟩ := hst.free kk
                clear hc2 hw2 c2 i2 hn
                rcases hf : f kk with _ | u
                · rw [hf] at e1
                  by_cases hlt3 : n < len3
                  · obtain ⟨hb3, hc3, hw3⟩ := c3 n hlt3
                    have hi3 := fun W => i3 n W hlt3
                    generalize z3.getD n 0 = v at hc3 hw3
                    have hcv : wr.cell? ⟨b3, o3 + n, none⟩ = some (.int .u16 v) := (hst.below.cell (p := ⟨b3, o3 + n, none⟩) hb3).trans hc3
                    clear hc3 c3 i3
                    obtain ⟨w', hrun, hst'⟩ := hst.putO hk16 hf hw3
                    clear hst e3 hw3 hf
                    go_wp2
                    go_roundw
                    case rel => exact ⟨n + 1, _, by go_num, by omega, hst'⟩
                    case measure => simp [intOf]; omega
                  · obtain ⟨w', hrun, hst'⟩ := hst.putO hk16 hf (v := 0) (by decide)
                    clear hst e3 c3 i3 hf
                    go_wp2
                    go_roundw
                    case rel => exact ⟨n + 1, _, by go_num, by omega, hst'⟩
                    case measure => simp [intOf]; omega
                · rw [hf] at e1
                  clear hf c3 i3
                  go_wp2
                  go_roundw
                  case rel => exact ⟨n + 1, _, by go_num, by omega, hst⟩
                  case measure => simp [intOf]; omega
              · clear c2 c3 i2 i3
                go_wp2
                go_meet
                case rel => exact ⟨_, g, rfl, hst⟩
        case rest =>
          clear hst c2 c3 i2 i3 hnn
          obtain ⟨mO, g, rfl, hst⟩ := hcut
          obtain ⟨wq, hwq⟩ : ∃ wq, wq = wc := ⟨_, rfl⟩
          subst hwq
          have hlt3 := hst.lt
          have hlt0 : w.heap.size < wq.heap.size := by omega
          have hlt1 : w.heap.size + 1 < wq.heap.size := by omega
          have hlt2 : w.heap.size + 1 + 1 < wq.heap.size := by omega
          have hbm := hst.mm.lt
          have hbo := hst.om.lt
          obtain ⟨hz1, hz2⟩ := bounds_u8 w5
          obtain ⟨kk, hkk⟩ : ∃ kk : Nat, a5 % 16 = (kk : Int) := ⟨(a5 % 16).toNat, by omega⟩
          have hk16 : kk < 16 := by omega
          obtain ⟨wi, hwi⟩ : ∃ wi, wi = ((f kk).isSome || (g kk).isSome) := ⟨_, rfl⟩
          go_upto_region 34 with fail
          go_cut [33] from 121 to 136 (fun s33 wr => s33 = .bool wi ∧ St w.heap.size w wr mM mO f g ∧ wr.heap[wq.heap.size]? = some (.cells #[.map mM, .map mO, .int .i64 a7, .int .i64 a8] 60 (0, 0)))
          case first =>
            have hR : St w.heap.size w (wq.alloc (.cells #[.map mM, .map mO, .int .i64 a7, .int .i64 a8] 60)) mM mO f g ∧ (wq.alloc (.cells #[.map mM, .map mO, .int .i64 a7, .int .i64 a8] 60)).heap[wq.heap.size]? = some (.cells #[.map mM, .map mO, .int .i64 a7, .int .i64 a8] 60 (0, 0)) :=
              ⟨hst.kept ((Below.refl _ _).alloc (Nat.le_refl _) _), heap_alloc_new _ _⟩
            obtain ⟨e1, e2, e3, e4⟩ := hst.cells hk16
            clear hst hbm hbo w5
            rcases hf : f kk with _ | u
            · rw [hf] at e1
              rcases hg : g kk with _ | v
              · rw [hg] at e2
                rw [hf, hg] at hwi
                subst hwi
                clear hf hg
                go_wp2
                go_meet
                case rel => exact ⟨rfl, hR⟩
              · rw [hg] at e2
                rw [hf, hg] at hwi
                subst hwi
                clear hf hg
                go_wp2
                go_meet
                case rel => exact ⟨rfl, hR⟩
            · rw [hf] at e1
              rw [hf] at hwi
              subst hwi
              clear hf
              go_wp2
              go_meet
              case rel => exact ⟨rfl, hR⟩
          case rest =>
            clear hst
            obtain ⟨rfl, hst, hp⟩ := hcut
            have HWI : Hid (wi = ((f kk).isSome || (g kk).isSome)) := hwi
            clear hwi
            obtain ⟨e1, e2, e3, e4⟩ := hst.cells hk16
            go_upto_if 139 with fail
            go_cut [34] from 137 to 148 (fun s34 wr => s34 = .int .u16 (prior f g kk) ∧ St w.heap.size w wr mM mO f g ∧ wr.heap[wq.heap.size]? = some (.cells #[.map mM, .map mO, .int .i64 a7, .int .i64 a8] 60 (0, 0)))
            case first =>
              have hpr : Hid (prior f g kk = if (f kk).isSome then (f kk).getD 0 else (g kk).getD 0) := rfl
              clear w5 HWI hbm hbo
              rcases hf : f kk with _ | u
              · rw [hf] at e1
                rcases hg : g kk with _ | v
                · rw [hg] at e2
                  have hpr2 : Hid (0 = prior f g kk) := by rw [hpr.out, hf, hg]; rfl
                  clear hg hf hpr
                  go_wp2
                  go_meet
                  case rel => exact ⟨by rw [← hpr2.out], hst, hp⟩
                · rw [hg] at e2 e4
                  have hpr2 : Hid (v = prior f g kk) := by rw [hpr.out, hf, hg]; rfl
                  clear hg hf hpr
                  go_wp2
                  go_meet
                  case rel => exact ⟨by rw [← hpr2.out], hst, hp⟩
              · rw [hf] at e1 e3
                have hpr2 : Hid (u = prior f g kk) := by rw [hpr.out, hf]; rfl
                clear hf hpr
                go_wp2
                go_meet
                case rel => exact ⟨by rw [← hpr2.out], hst, hp⟩
            case rest =>
              clear hst hp e1 e2 e3 e4
              obtain ⟨rfl, hst, hp⟩ := hcut
              have hnM : mM ≠ some wq.heap.size := fun e => by have := hbm _ e; omega
              have hnO : mO ≠ some wq.heap.size := fun e => by have := hbo _ e; omega
              go_wp2_with fail
              refine (or_any wq.heap.size kk a6 mM mO (.int .i64 a7) (.int .i64 a8) f g wc hk16 hp hst.mm hst.om hnM hnO hst.ne (hst.dis kk hk16)).mono ?_
              rintro e w2 ⟨rfl, b, hp2, hM2, hO2, hb, hk2⟩
              have HA : (!(f kk).isSome && !(g kk).isSome) = !wi := by rw [HWI.out]; simp
              rw [HA]
              clear HA HWI
              have hsz := hst.lt
              have hA : ∀ j, j < w.heap.size + 1 + 1 + 1 + 1 → w2.heap[j]? = wc.heap[j]? := by
                intro j hj
                refine hk2.block j (by omega) ?_
                rintro (h | h | h)
                · omega
                · have := hst.bM j h; omega
                · have := hst.bO j h; omega
              have hcell : ∀ k, k < 16 → w2.cell? ⟨w.heap.size, k, none⟩ = some (.bool (f k).isSome) ∧ w2.cell? ⟨w.heap.size + 1, k, none⟩ = some (.bool (g k).isSome) ∧ w2.cell? ⟨w.heap.size + 1 + 1, k, none⟩ = some (.int .u16 ((f k).getD 0)) ∧ w2.cell? ⟨w.heap.size + 1 + 1 + 1, k, none⟩ = some (.int .u16 ((g k).getD 0)) := by
                intro k hk
                obtain ⟨e1, e2, e3, e4⟩ := hst.cells hk
                exact ⟨(World.cell?_of_block (a := ⟨w.heap.size, k, none⟩) (hA w.heap.size (by omega))).trans e1, (World.cell?_of_block (a := ⟨w.heap.size + 1, k, none⟩) (hA (w.heap.size + 1) (by omega))).trans e2, (World.cell?_of_block (a := ⟨w.heap.size + 1 + 1, k, none⟩) (hA (w.heap.size + 1 + 1) (by omega))).trans e3, (World.cell?_of_block (a := ⟨w.heap.size + 1 + 1 + 1, k, none⟩) (hA (w.heap.size + 1 + 1 + 1) (by omega))).trans e4⟩
              have hbel : Below w.heap.size w w2 := by
                refine hk2.below hst.below (by omega) ?_
                rintro j hj (h | h | h)
                · omega
                · have := hst.bM j h; omega
                · have := hst.bO j h; omega
              have p0 : w2.cell? ⟨wq.heap.size, 0, none⟩ = some (.map (some b)) := by simp [World.cell?, hp2]
              have p1 : w2.cell? ⟨wq.heap.size, 1, none⟩ = some (.map mO) := by simp [World.cell?, hp2]
              have p2 : w2.cell? ⟨wq.heap.size, 2, none⟩ = some (.int .i64 a7) := by simp [World.cell?, hp2]
              have p3 : w2.cell? ⟨wq.heap.size, 3, none⟩ = some (.int .i64 a8) := by simp [World.cell?, hp2]
              clear hst hp hp2 hk2 hA hsz hb hnM hnO hbm hbo hlt0 hlt1 hlt2 hlt3 w5
              have hn := fun w m => run_eql_map_nil (P := Yba.prog) w 57 5 54 m Yba.underlying57
              have hlenM := hM2.len
              have hlenO := hO2.len
              go_wp2
              go_loop [36, 37, 38] (fun s36 s37 s38 => ∃ j : Nat, j ≤ 16 ∧ s38 = .int .u8 j ∧ s36 = .int .i64 (cnt (kput f kk (bits BinOp.or IntKind.u16 (prior f g kk) a6)) j) ∧ s37 = .int .i64 (cnt (kdel g kk) j)) (fun _ _ s38 => 16 - (intOf s38).toNat)
              case atStart => exact ⟨0, Nat.zero_le _, rfl, rfl, rfl⟩
              case round =>
                obtain ⟨j, hj, rfl, rfl, rfl⟩ := hrel
                by_cases hlt : j < 16
                · have hLM := hM2.look hlt
                  have hLO := hO2.look hlt
                  obtain ⟨e1, e2, e3, e4⟩ := hcell j hlt
                  have cF := cnt_le (kput f kk (bits BinOp.or IntKind.u16 (prior f g kk) a6)) j
                  have cG := cnt_le (kdel g kk) j
                  clear hM2 hO2 hcell hlenM hlenO
                  by_cases e : j = kk
                  · subst e
                    rw [kput_same] at hLM
                    rw [kdel_same] at hLO
                    clear e1 e2 e3 e4
                    go_wp2
                    go_round
                    case rel => exact ⟨j + 1, by omega, by go_num, val_int (cnt_hit (kput_same _ _ _)), val_int (cnt_miss (kdel_same _ _))⟩
                    case measure => simp [intOf]; omega
                  · have hne : ((j : Int) == (kk : Int)) = false := by simp; omega
                    have HF : Hid (kput f kk (bits BinOp.or IntKind.u16 (prior f g kk) a6) j = f j) := kput_other _ e
                    have HG : Hid (kdel g kk j = g j) := kdel_other e
                    rw [HF.out] at hLM
                    rw [HG.out] at hLO
                    clear e
                    rcases hf : f j with _ | u
                    · rw [hf] at hLM e1 e3
                      have HF2 : Hid (kput f kk (bits BinOp.or IntKind.u16 (prior f g kk) a6) j = none) := HF.out.trans hf
                      clear hf HF
                      rcases hg : g j with _ | v
                      · rw [hg] at hLO e2 e4
                        have HG2 : Hid (kdel g kk j = none) := HG.out.trans hg
                        clear hg HG
                        go_wp2
                        go_round
                        case rel => exact ⟨j + 1, by omega, by go_num, val_int (cnt_miss HF2.out), val_int (cnt_miss HG2.out)⟩
                        case measure => simp [intOf]; omega
                      · rw [hg] at hLO e2 e4
                        have HG2 : Hid (kdel g kk j = some v) := HG.out.trans hg
                        clear hg HG
                        go_wp2
                        go_round
                        case rel => exact ⟨j + 1, by omega, by go_num, val_int (cnt_miss HF2.out), val_int (cnt_hit HG2.out)⟩
                        case measure => simp [intOf]; omega
                    · rw [hf] at hLM e1 e3
                      have HF2 : Hid (kput f kk (bits BinOp.or IntKind.u16 (prior f g kk) a6) j = some u) := HF.out.trans hf
                      clear hf HF
                      rcases hg : g j with _ | v
                      · rw [hg] at hLO e2 e4
                        have HG2 : Hid (kdel g kk j = none) := HG.out.trans hg
                        clear hg HG
                        go_wp2
                        go_round
                        case rel => exact ⟨j + 1, by omega, by go_num, val_int (cnt_hit HF2.out), val_int (cnt_miss HG2.out)⟩
                        case measure => simp [intOf]; omega
                      · rw [hg] at hLO e2 e4
                        have HG2 : Hid (kdel g kk j = some v) := HG.out.trans hg
                        clear hg HG
                        go_wp2
                        go_round
                        case rel => exact ⟨j + 1, by omega, by go_num, val_int (cnt_hit HF2.out), val_int (cnt_hit HG2.out)⟩
                        case measure => simp [intOf]; omega
                · obtain rfl : j = 16 := by omega
                  clear hM2 hO2 hcell hj
                  go_wp2
                  go_ret
                  exact ⟨rfl, hbel⟩

set_option maxRecDepth 100000 in
theorem or_long0 (a0 : Option Addr) (len0 cap0 : Nat) (a1 : Option Addr) (len1 cap1 : Nat) (a2 : Option Addr) (len2 cap2 : Nat) (a3 : Option Addr) (len3 cap3 : Nat) (a4 : Bool) (a5 : Int) (a6 : Int) (a7 : Int) (a8 : Int) (w : World) (_h : ¬ len0 ≤ 1024) :
    Calls Yba.prog 7 #[.slice a0 len0 cap0, .slice a1 len1 cap1, .slice a2 len2 cap2, .slice a3 len3 cap3, .bool a4, .int .u8 a5, .int .u16 a6, .int .i64 a7, .int .i64 a8] w fun e w' => e = .returned (.bool true) ∧ Below w.heap.size w w' := by
  go_enter Yba.func7, Yba.ntmps7
  go_wp2
  go_ret
  exact ⟨rfl, Below.refl _ _⟩

set_option maxRecDepth 100000 in
theorem or_long2 (a0 : Option Addr) (len0 cap0 : Nat) (a1 : Option Addr) (len1 cap1 : Nat) (a2 : Option Addr) (len2 cap2 : Nat) (a3 : Option Addr) (len3 cap3 : Nat) (a4 : Bool) (a5 : Int) (a6 : Int) (a7 : Int) (a8 : Int) (w : World) (_h0 : len0 ≤ 1024) (_h : ¬ len2 ≤ 1024) :
    Calls Yba.prog 7 #[.slice a0 len0 cap0, .slice a1 len1 cap1, .slice a2 len2 cap2, .slice a3 len3 cap3, .bool a4, .int .u8 a5, .int .u16 a6, .int .i64 a7, .int .i64 a8] w fun e w' => e = .returned (.bool true) ∧ Below w.heap.size w w' := by
  go_enter Yba.func7, Yba.ntmps7
  go_wp2
  go_ret
  exact ⟨rfl, Below.refl _ _⟩
end Go.Proofs.Ybulkctyw
