/-
  The walk of vclog.LawS4785AMatchesBrute.
-/
import Derived.Test.YbulkcuboVcHosts
import Derived.Test.YbulkcuboVcEvents
import Derived.Deep.DeepCutAuto
import Derived.Deep.CutBlock
import Derived.BigRegion
import Derived.BigQuiet
import Derived.Deep.RegionWith
namespace Go.Proofs.Ybulkcubo
open Go.RowKit

theorem At.drawn {W : World} {g nh : Nat} {u : Vc} (h : At W g nh u) (k : Nat) : At (W.drewN k) g nh u := h

theorem cntP_step {p : Nat → Bool} {d : Nat} {b : Bool} (h : p d = b) : cntP p (d + 1) = cntP p d + (if b then 1 else 0) := by simp only [cntP, h]

theorem quiet_at {P : Program} {f : FuncId} {args : Array Value} {w : World} {k n : Nat} {v : Value} (h : Calls P f args (w.drewN (k + n)) fun e w' => e = .returned v ∧ ∃ m, w' = (w.drewN (k + n)).drewN m) :
    Calls P f args (w.drewN (k + n)) fun e w'' => e = .returned v ∧ ∃ m, w'' = w.drewN (k + m) :=
  h.mono fun _ _ ⟨he, m, hm⟩ => ⟨he, n + m, by rw [hm, World.drewN_drewN, Nat.add_assoc]⟩

theorem hide {p : Prop} (h : p) : Hid p := h

set_option maxRecDepth 100000 in
set_option maxHeartbeats 40000000 in
theorem brute_walk (hs len cap : Nat) (a : Option Addr) (b off : Nat) (OP AA BB : Nat → Nat) (w : World) (hhs : hs < 256) (hst : Steps w a len cap b off OP AA BB) :
    Calls Yba.prog 3 #[.int .u8 (hs : Int), .slice a len cap] w fun e w' => e = .returned (.bool true) ∧ Below w.heap.size w w' := by
  by_cases hlen : 400 < len
  · have hl : (400 : Int) < len := by omega
    go_enter Yba.func3, Yba.ntmps3
    go_wp2
    go_ret
    exact ⟨rfl, Below.refl _ _⟩
  have hl : ¬ (400 : Int) < len := by omega
  obtain ⟨nh, hnh⟩ : ∃ nh : Nat, nh = 1 + hs % 4 := ⟨_, rfl⟩
  have hnh1 : 1 ≤ nh := by omega
  have hnh4 : nh ≤ 4 := by omega
  have e1 : (1 : Int) + (hs : Int) % 4 = (nh : Int) := by omega
  clear hnh
  have mk23 := run_make_row' (P := Yba.prog) 23 24 (.slice none 0 0) 24 Yba.underlying23 info24 rfl .i64 .i64 nh (by omega) (by omega)
  have mk24 := run_make_row' (P := Yba.prog) 24 29 (.int .u64 0) 8 Yba.underlying24 info29 rfl .i64 .i64 nh (by omega) (by omega)
  have HST : Hid (Steps w a len cap b off OP AA BB) := hst
  clear hst
  go_enter Yba.func3, Yba.ntmps3
  go_wp2
  go_loopw [7] (fun s7 wr => ∃ r : Nat, r ≤ nh ∧ s7 = .int .i64 r ∧ St1 w nh wr r) (fun s7 _ => nh - (intOf s7).toNat)
  case atStart => exact ⟨0, by omega, rfl, St1.start w nh⟩
  case round =>
    obtain ⟨r, hr, rfl, s1⟩ := hrel
    by_cases hlt : r < nh
    · have hltI : (r : Int) < nh := by omega
      have c1 := s1.cell hlt
      rw [if_neg (by omega)] at c1
      have c2 := frozen_row s1.row r
      have hsz : w.heap.size < wr.heap.size := by have := s1.size; omega
      have S1 : Hid (St1 w nh wr r) := s1
      clear s1
      go_wp2
      go_roundw
      case rel => exact ⟨r + 1, by omega, by go_num, S1.out.next hlt⟩
      case measure => simp [intOf]; omega
    · have hrn : nh = r := by omega
      subst hrn
      have M0 : Hid (Mem2 w nh wr (fun _ _ => 0) 0 (fun _ => 0) (fun _ _ => 0) (fun _ => 0) (.slice none 0 0) (.slice none 0 0)) := Mem2.start s1
      clear s1 hlt hr
      go_wp2
      go_loopw [8, 9, 56] (fun s8 s9 s56 wr => ∃ (n : Nat) (cur vc : Nat → Vc) (own g : Nat → Nat) (a8 a9 : Option Addr) (c8 c9 : Nat), n ≤ len ∧ s56 = .int .i64 n ∧ s8 = .slice a8 n c8 ∧ s9 = .slice a9 n c9 ∧
        Mem2 w nh wr cur n own vc g (.slice a8 n c8) (.slice a9 n c9) ∧ Fit nh cur n own vc) (fun _ _ s56 _ => len - (intOf s56).toNat)
      case atStart => exact ⟨0, _, _, _, _, none, none, 0, 0, by omega, rfl, rfl, rfl, M0.out, Fit.start nh⟩
      case round =>
        obtain ⟨n, cur, vc, own, g, a8, a9, c8, c9, hn, rfl, rfl, rfl, m2, fit⟩ := hrel
        clear M0
        by_cases hlt : n < len
        · have hltI : (n : Int) < len := by omega
          obtain ⟨hb, q0, q1, q2, b0, b1, b2⟩ := HST.out.1 n hlt
          have hidx := fun W => HST.out.2 n W hlt
          generalize OP n = op at q0 b0
          generalize AA n = aa at q1 b1
          generalize BB n = bb at q2 b2
          have r0 := (m2.bel.cell (p := ⟨b, off + n * 3, none⟩) hb).trans q0
          have r1 := (m2.bel.cell (p := ⟨b, off + n * 3 + 1, none⟩) hb).trans q1
          have r2 := (m2.bel.cell (p := ⟨b, off + n * 3 + 2, none⟩) hb).trans q2
          clear q0 q1 q2
          have M2 : Hid (Mem2 w nh wr cur n own vc g (.slice a8 n c8) (.slice a9 n c9)) := m2
          have FT : Hid (Fit nh cur n own vc) := fit
          clear m2 fit
          have hb2 : b < wr.heap.size := by have := M2.out.bel.size; omega
          obtain ⟨A, hA⟩ : ∃ A : Nat, aa % nh = A := ⟨_, rfl⟩
          have hA1 : A < nh := by rw [← hA]; exact Nat.mod_lt _ (by omega)
          have hAI : (aa : Int) % (nh : Int) = (A : Int) := by omega
          clear hA
          go_upto_region 15 with (fail)
          simp only [hAI]
          obtain ⟨W1, hW1⟩ : ∃ W1, W1 = wr.alloc (.cells #[.int .u8 (op : Int), .int .u8 (aa : Int), .int .u16 (bb : Int)] 28) := ⟨_, rfl⟩
          have M3 : Hid (Mem2 w nh W1 cur n own vc g (.slice a8 n c8) (.slice a9 n c9)) := by rw [hW1]; exact M2.out.alloc _
          have p2 : W1.cell? ⟨wr.heap.size, 2, none⟩ = some (.int .u16 (bb : Int)) := by rw [hW1, cell_of_row _ _ _ _ _ _ (World.alloc_heap_new _ _)]; rfl
          have p0 : W1.cell? ⟨wr.heap.size, 0, none⟩ = some (.int .u8 (op : Int)) := by rw [hW1, cell_of_row _ _ _ _ _ _ (World.alloc_heap_new _ _)]; rfl
          rw [← hW1]
          clear hW1 M2 r0 r1 r2
          go_cut [73] from 65 to 73 (fun s73 wq => (∃ t, s73 = .bool t ∧ (t = true → 0 < n)) ∧ wq = W1)
          case first =>
            by_cases ho : op % 2 = 1
            · have hd : decide ((op : Int) % 2 = 1) = true := by simp; omega
              by_cases hn0 : 0 < n
              · go_wp2
                go_meet
                case rel => exact ⟨⟨_, rfl, fun _ => hn0⟩, rfl⟩
              · have hn1 : decide (0 < n) = false := by simp; omega
                have hn2 : decide ((0 : Int) < (n : Int)) = false := by simp; omega
                have HN : Hid (¬ 0 < n) := hn0
                clear hn0
                go_wp2
                go_meet
                case rel => exact ⟨⟨_, rfl, fun h => by first | cases h | (simp at h; exact absurd h HN.out)⟩, rfl⟩
            · have hd : decide ((op : Int) % 2 = 1) = false := by simp; omega
              go_wp2
              go_meet
              case rel => exact ⟨⟨_, rfl, fun h => by cases h⟩, rfl⟩
          case rest =>
            obtain ⟨⟨t, rfl, ht⟩, hwc⟩ := hcut
            subst hwc
            have HT : Hid (t = true → 0 < n) := ht
            clear ht p0
            go_upto_if 73 with (fail)
            go_cut [13, 14] from 73 to 109 (fun _ _ wq => ∃ cur', Mem2 w nh wq cur' n own vc g (.slice a8 n c8) (.slice a9 n c9) ∧ Fit nh cur' n own vc)
            case first =>
              cases t
              · go_wp2
                go_meet
                case rel => exact ⟨cur, M3.out, FT.out⟩
              · have hn0 : 0 < n := HT.out rfl
                obtain ⟨g8, rfl, g81, g82, -, g83⟩ := own_at M3.out.own8 hn0
                obtain ⟨j, hj⟩ : ∃ j : Nat, bb % n = j := ⟨_, rfl⟩
                have hj1 : j < n := by rw [← hj]; exact Nat.mod_lt _ (by omega)
                have hjI : (bb : Int) % (n : Int) = (j : Int) := by omega
                clear hj
                have q1 := g83 j (.slice (some ⟨g j, 0, none⟩) nh nh) (by simp [hj1])
                clear g83 g82 g81
                go_wp2
                go_loopw [14] (fun s14 wv => ∃ k : Nat, k ≤ nh ∧ s14 = .int .i64 k ∧ Mem2 w nh wv (fun h => if h = A then (fun o => if o < k then max (cur A o) (vc j o) else cur A o) else cur h) n own vc g (.slice (some ⟨g8, 0, none⟩) n c8) (.slice a9 n c9)) (fun s14 _ => nh - (intOf s14).toNat)
                case atStart => exact ⟨0, by omega, rfl, M3.out.congr (fun x _ o _ => by by_cases e : x = A <;> simp [e])⟩
                case round =>
                  obtain ⟨k, hk, rfl, m4⟩ := hrel
                  clear q1 p2
                  by_cases hlt3 : k < nh
                  · have hk1 : (k : Int) < nh := by omega
                    have d1 := m4.cell hA1
                    have d2 := (m4.vcs j hj1).2.cell hlt3
                    have d3 := (m4.curs A hA1).cell hlt3
                    have d4 := (m4.curs A hA1).frozen k
                    simp only [if_true, Nat.lt_irrefl, if_false] at d3
                    have M4 : Hid (Mem2 w nh wr (fun h => if h = A then (fun o => if o < k then max (cur A o) (vc j o) else cur A o) else cur h) n own vc g (.slice (some ⟨g8, 0, none⟩) n c8) (.slice a9 n c9)) := m4
                    clear m4
                    generalize hx : vc j k = x at d2
                    generalize hy : cur A k = y at d3
                    have HX : Hid (vc j k = x) := hx
                    have HY : Hid (cur A k = y) := hy
                    clear hx hy
                    by_cases hxy : y < x
                    · have hd : decide ((y : Int) < (x : Int)) = true := by simp; omega
                      go_wp2
                      go_quiet (fail)
                      go_wp2
                      go_region
                      go_wp2
                      go_roundw
                      case rel =>
                        refine ⟨k + 1, by omega, by go_num, ((M4.out.drew (nq + 1)).setcur hA1 k x).congr (fun y' _ o _ => ?_)⟩
                        by_cases e : y' = A
                        · subst e
                          simp only [if_true, upd]
                          by_cases e2 : o = k
                          · subst e2
                            have h1 := HX.out
                            have h2 := HY.out
                            simp
                            omega
                          · have h3 : o < k ↔ o < k + 1 := by omega
                            simp [e2, h3]
                        · simp [e]
                      case measure => simp [intOf]; omega
                    · have hd : decide ((y : Int) < (x : Int)) = false := by simp; omega
                      go_wp2
                      go_quiet (fail)
                      go_wp2
                      go_roundw
                      case rel =>
                        refine ⟨k + 1, by omega, by go_num, (M4.out.drew nq).congr (fun y' _ o _ => ?_)⟩
                        by_cases e : y' = A
                        · subst e
                          simp only [if_true]
                          by_cases e2 : o = k
                          · subst e2
                            have h1 := HX.out
                            have h2 := HY.out
                            simp
                            omega
                          · have h3 : o < k ↔ o < k + 1 := by omega
                            simp [h3]
                        · simp [e]
                      case measure => simp [intOf]; omega
                  · have hrn : decide ((k : Int) < (nh : Int)) = false := by simp; omega
                    have hrn2 : decide (k < nh) = false := by simp; omega
                    have M4 : Hid (Mem2 w nh wr (fun h => if h = A then (fun o => if o < k then max (cur A o) (vc j o) else cur A o) else cur h) n own vc g (.slice (some ⟨g8, 0, none⟩) n c8) (.slice a9 n c9)) := m4
                    have HK : Hid (¬ k < nh) := hlt3
                    clear m4 hlt3
                    go_wp2
                    go_meet
                    case rel =>
                      refine ⟨_, M4.out.congr (fun y' _ o ho => ?_), FT.out.merge hA1 hj1⟩
                      have hk2 := HK.out
                      by_cases e : y' = A
                      · subst e
                        have h3 : o < k := by omega
                        simp [h3]
                      · simp [e]
            case rest =>
              clear M3 FT HT p2
              obtain ⟨cur', m3, fit⟩ := hcut
              have d1 := m3.cell hA1
              have d3 := (m3.curs A hA1).cell hA1
              have d4 := (m3.curs A hA1).frozen A
              have hsm := fit.small hA1 hA1
              have M3 : Hid (Mem2 w nh wc cur' n own vc g (.slice a8 n c8) (.slice a9 n c9)) := m3
              have FT : Hid (Fit nh cur' n own vc) := fit
              clear m3 fit
              generalize hy : cur' A A = y at d3 hsm
              have HY : Hid (cur' A A = y) := hy
              clear hy
              have hyI : (y : Int) ≤ 400 := by omega
              go_upto_region 23 with (fail)
              obtain ⟨W2, hW2⟩ : ∃ W2, W2 = wc.setCell ⟨w.heap.size + 1 + A, A, none⟩ (.int .u64 ((y + 1 : Nat) : Int)) := ⟨_, rfl⟩
              have M4 : Mem2 w nh W2 (fun h => if h = A then bump (cur' h) A else cur' h) n own vc g (.slice a8 n c8) (.slice a9 n c9) := by
                rw [hW2]
                refine (M3.out.setcur hA1 A (y + 1)).congr (fun h _ o _ => ?_)
                by_cases e : h = A
                · subst e
                  have hy := HY.out
                  simp only [if_true, upd, bump]
                  by_cases e2 : o = h
                  · subst e2
                    simp [hy]
                  · simp [e2]
                · simp [e]
              have F4 := FT.out.next hA1
              rw [show ((y : Int) + 1) = ((y + 1 : Nat) : Int) by omega, ← hW2]
              clear hW2 M3 FT HY d1 d3 d4 hsm hyI
              obtain ⟨W3, hW3⟩ : ∃ W3, W3 = W2.alloc (.cells (madeCells #[.int .u64 0] nh) 29) := ⟨_, rfl⟩
              have m3 : Mem2 w nh W3 (fun h => if h = A then bump (cur' h) A else cur' h) n own vc g (.slice a8 n c8) (.slice a9 n c9) := by rw [hW3]; exact M4.alloc _
              have d1 := m3.cell hA1
              have a1 := m3.curs A hA1
              simp only [if_true] at a1
              have a2 : At W3 W2.heap.size nh (fun _ => 0) := by rw [hW3]; exact At.made W2 nh
              have hcp := copy_clock a1 a2
              obtain ⟨W4, hW4⟩ : ∃ W4, W4 = W3.setRow W2.heap.size (rowV nh (bump (cur' A) A)).toArray := ⟨_, rfl⟩
              have hB4 : Below W2.heap.size W2 W4 := by rw [hW4, hW3]; exact below_setRow ((Below.refl _ _).alloc (Nat.le_refl _) _) (Nat.le_refl _) _
              have m4 := M4.same hB4
              have a4 : At W4 W2.heap.size nh (bump (cur' A) A) := by rw [hW4]; exact setRow_heap _ _ _ _ _ _ a2
              rw [← hW4] at hcp
              have hg2 : w.heap.size + nh < W2.heap.size := M4.big
              clear hW4 hB4
              obtain ⟨g', c', W5, hap, hown5, hgr5, hsz5, -⟩ := app_one Yba.underlying23 info24 rfl (by omega) W4 23 m4.own8 (.slice (some ⟨W2.heap.size, 0, none⟩) nh nh) rfl (by omega) (by have := m4.big; omega)
              have m5 := m4.push8 hg2 a4 hown5 hgr5
              obtain ⟨g'', c'', W6, hap6, hown6, hgr6, hsz6, -⟩ := app_one Yba.underlying25 info3 rfl (by omega) W5 25 m5.2.2.2.2.2.1 (.int .i64 (A : Int)) rfl (by omega) (by have := m5.2.1; omega)
              have m6 : Hid (Mem2 w nh W6 (fun h => if h = A then bump (cur' h) A else cur' h) (n + 1) (snoc own n A) (snoc vc n (bump (cur' A) A)) (snoc g n W2.heap.size) (.slice (some ⟨g', 0, none⟩) (n + 1) c') (.slice (some ⟨g'', 0, none⟩) (n + 1) c'')) := Mem2.push9 m5 hown6 hgr6
              have FT : Hid (Fit nh (fun h => if h = A then bump (cur' h) A else cur' h) (n + 1) (snoc own n A) (snoc vc n (bump (cur' A) A))) := F4
              clear m3 a1 a2 m4 a4 m5 hown5 hown6 hgr5 hgr6 M4 F4
              go_upto_region 24 with (fail)
              rw [← hW3]
              clear hW3
              go_upto_region 25 with (fail)
              clear hcp
              go_upto_region 26 with (refine wpList_app (v := .slice a8 n c8) (vx := .slice (some ⟨W4.heap.size, 0, none⟩) 1 1) rfl (.tmp 127) (.tmp 129) 23 rfl rfl rfl hap ?_)
              clear hap
              go_wp2_with (refine wpList_app (v := .slice a9 n c9) (vx := .slice (some ⟨W5.heap.size, 0, none⟩) 1 1) rfl (.tmp 131) (.tmp 133) 25 rfl rfl rfl hap6 ?_)
              go_roundw
              case rel => exact ⟨n + 1, _, _, _, _, _, _, _, _, by omega, by go_num, rfl, rfl, m6.out, FT.out⟩
              case measure => simp [intOf]; omega
        · have hrn : len = n := by omega
          subst hrn
          have M2 : Hid (Mem2 w nh wr cur len own vc g (.slice a8 len c8) (.slice a9 len c9)) := m2
          have LG : Hid (Log nh own vc len) := fit.log
          clear m2 fit hlt hn
          have mk30 := run_make_row' (P := Yba.prog) 30 32 (.pointer none) 8 Yba.underlying30 info32 rfl .i64 .i64 nh (by omega) (by omega)
          go_wp2
          obtain ⟨wz, hwz⟩ : ∃ wz, wz = wr := ⟨_, rfl⟩
          subst hwz
          go_loopw [17] (fun s17 wr => ∃ (r : Nat) (X S SC : Nat → Nat), r ≤ nh ∧ s17 = .int .i64 r ∧ St3 wz nh wr r X S SC) (fun s17 _ => nh - (intOf s17).toNat)
          case atStart => exact ⟨0, _, _, _, by omega, rfl, St3.start wz nh⟩
          case round =>
            obtain ⟨r, X, S, SC, hr, rfl, s3⟩ := hrel
            obtain ⟨wq, hwq⟩ : ∃ wq, wq = wr := ⟨_, rfl⟩
            subst hwq
            by_cases hlt : r < nh
            · have hltI : (r : Int) < nh := by omega
              have S3 : Hid (St3 wz nh wq r X S SC) := s3
              clear s3
              go_wp2
              go_loopw [18, 19] (fun s18 s19 wv => ∃ (o q c : Nat), o ≤ nh ∧ s19 = .int .i64 o ∧ s18 = .slice (some ⟨q, 0, none⟩) (slotsAt r o) c ∧
                wv.ownsRow wq.heap.size 21 1 (.slice (some ⟨q, 0, none⟩) (slotsAt r o) c) (slotsAt r o) (slotRow r (slotsAt r o)) ∧ Below wq.heap.size wq wv) (fun _ s19 _ => nh - (intOf s19).toNat)
              case atStart => exact ⟨0, wq.heap.size, 1, by omega, rfl, rfl, own_one wq 21 (.int .i32 (r : Int)), (Below.refl _ _).alloc (Nat.le_refl _) _⟩
              case round =>
                obtain ⟨o, q, c, ho, rfl, rfl, hown, hbel⟩ := hrel
                have HW : Hid (wr.ownsRow wq.heap.size 21 1 (.slice (some ⟨q, 0, none⟩) (slotsAt r o) c) (slotsAt r o) (slotRow r (slotsAt r o))) := hown
                have HB : Hid (Below wq.heap.size wq wr) := hbel
                clear hown hbel
                by_cases hlt5 : o < nh
                · have hlt5I : (o : Int) < nh := by omega
                  by_cases hor : o = r
                  · subst hor
                    go_wp2
                    go_roundw
                    case rel => exact ⟨o + 1, q, c, by omega, by go_num, by rw [slotsAt_same], by rw [slotsAt_same]; exact HW.out, HB.out⟩
                    case measure => simp [intOf]; omega
                  · have horI : ¬ (o : Int) = (r : Int) := by omega
                    have hsz := HB.out.size
                    have hsl : slotsAt r o ≤ 100 := by unfold slotsAt; split <;> omega
                    obtain ⟨q', c', V, hap, hown2, hgr, -, -⟩ := app_one Yba.underlying31 info21 rfl (by omega) wr 31 HW.out (.int .i32 (o : Int)) rfl (by omega) hsz
                    obtain ⟨e1', e2'⟩ := slotRow_next hor
                    rw [e1'] at hown2
                    have HW2 : Hid (V.ownsRow wq.heap.size 21 1 (.slice (some ⟨q', 0, none⟩) (slotsAt r (o + 1)) c') (slotsAt r (o + 1)) (slotRow r (slotsAt r (o + 1)))) := by
                      rw [e2']
                      rw [e2'] at hown2
                      exact hown2
                    have HB2 : Hid (Below wq.heap.size wq V) := below_app HB.out HW.out hsz hgr
                    have HE : Hid (slotsAt r (o + 1) = slotsAt r o + 1) := e2'
                    clear hown2 hgr e1' e2' hsz HW HB
                    generalize slotsAt r o = m at hap hsl HE
                    go_wp2_with (refine wpList_app (v := .slice (some ⟨q, 0, none⟩) m c) (vx := .slice (some ⟨wr.heap.size, 0, none⟩) 1 1) rfl (.tmp 154) (.tmp 157) 31 rfl rfl rfl hap ?_)
                    go_roundw
                    case rel => exact ⟨o + 1, q', c', by omega, by go_num, by rw [HE.out], HW2.out, HB2.out⟩
                    case measure => simp [intOf]; omega
                · have hoe : nh = o := by omega
                  subst hoe
                  have c1 := (HB.out.cell (p := ⟨wz.heap.size, r, none⟩) S3.out.big).trans (S3.out.cell hlt)
                  rw [if_neg (Nat.lt_irrefl _)] at c1
                  have c2 := frozen_row ((HB.out.block _ S3.out.big).trans S3.out.row) r
                  have hzs : wz.heap.size < wr.heap.size := Nat.lt_of_lt_of_le S3.out.big HB.out.size
                  have HSE : Hid (slotsAt r nh = nh) := slotsAt_end hlt
                  go_wp2
                  go_roundw
                  case rel =>
                    refine ⟨r + 1, snoc X r wr.heap.size, snoc S r q, snoc SC r c, by omega, by go_num, ?_⟩
                    have h5 := HW.out
                    rw [HSE.out] at h5 ⊢
                    exact S3.out.next hlt HB.out h5 rfl rfl rfl
                  case measure => simp [intOf]; omega
            · have hre : nh = r := by omega
              subst hre
              have S3 : Hid (St3 wz nh wq nh X S SC) := s3
              clear s3 hlt hr
              obtain ⟨ce, hce, mk36⟩ := make_events len (by omega)
              have HCE : Hid (ce.size = len * 4) := hce
              clear hce
              go_wp2
              go_loopw [21] (fun s21 wr => ∃ (r : Nat) (vh : Nat → Value) (evs : Nat → Array Value), r ≤ len ∧ s21 = .int .i64 r ∧ St4 wz wq.heap.size nh len own vc X S SC wr r r vh evs) (fun s21 _ => len - (intOf s21).toNat)
              case atStart => exact ⟨0, _, fun _ => #[], by omega, rfl, St4.start S3.out HCE.out _⟩
              case round =>
                obtain ⟨r, vh, evs, hr, rfl, s4⟩ := hrel
                by_cases hlt : r < len
                · have hltI : (r : Int) < len := by omega
                  have m2 := M2.out.same s4.bel
                  have ho := LG.out.host r hlt
                  obtain ⟨g8, rfl, -, -, -, t8⟩ := own_at m2.own8 (by omega)
                  obtain ⟨g9, rfl, -, -, -, t9⟩ := own_at m2.own9 (by omega)
                  have p8 := t8 r (.slice (some ⟨g r, 0, none⟩) nh nh) (by simp [hlt])
                  have p9 := t9 r (.int .i64 (own r : Int)) (by simp [hlt])
                  clear t8 t9
                  have av := (m2.vcs r hlt).2
                  obtain ⟨hb, q0, -, -, b0, -⟩ := HST.out.1 r hlt
                  have hidx := fun W => HST.out.2 r W hlt
                  have r0 := (m2.bel.cell (p := ⟨b, off + r * 3, none⟩) hb).trans q0
                  generalize hop : OP r = op at r0 b0
                  clear q0 hop
                  obtain ⟨x1, x2, x3, x4, hx⟩ := s4.hosts _ ho
                  obtain ⟨xs, hxs⟩ := s4.rows _ ho
                  obtain ⟨ah, ch, eh⟩ := own_form hxs
                  obtain ⟨⟨bs, bx1, bx2, bx3, bx4⟩, cu, u1, u2⟩ := hx
                  have prow : wr.cell? ⟨wz.heap.size, own r, none⟩ = some (.pointer (some ⟨X (own r), 0, none⟩)) := by
                    rw [cell_of_row _ _ _ _ _ _ s4.row]
                    simp [hostRow, ho]
                  have px3 : wr.cell? ⟨X (own r), 3, none⟩ = some (.slice ah (cntO own (own r) r) ch) := by rw [cell_of_row _ _ _ _ _ _ bx1, bx3, eh]
                  have hK := s4.big
                  have hcn := cntO_le own (own r) r
                  obtain ⟨g', c', V, hap, hown, hgr, hvs, hblk⟩ := app_one Yba.underlying31 info21 rfl (by omega) wr 31 hxs (.int .i32 (r : Int)) rfl (by omega) (by omega)
                  have s5 := s4.push ho hown hgr hblk
                  have hVx : V.heap[X (own r)]? = wr.heap[X (own r)]? := grown_keeps hxs hgr (by omega) (.inl (by omega))
                  have pv3 : V.cell? ⟨X (own r), 3, none⟩ = some (.slice ah (cntO own (own r) r) ch) := by rw [cell_of_row _ _ _ _ _ _ (hVx.trans bx1), bx3, eh]
                  have pf3 : V.frozen? ⟨X (own r), 3, none⟩ = false := frozen_row (hVx.trans bx1) 3
                  rw [eh] at hap
                  obtain ⟨hh, ehh⟩ : ∃ hh, own r = hh := ⟨_, rfl⟩
                  obtain ⟨mc, emc⟩ : ∃ mc, cntO own (own r) r = mc := ⟨_, rfl⟩
                  rw [emc] at px3 pv3 hap
                  rw [ehh] at px3 pv3 pf3 prow p9 ho x1 x2
                  have hhI : (hh : Int) < nh := by omega
                  have S5 := hide s5
                  clear s5 hown hgr hblk hxs hVx bx1 bx2 bx3 bx4 u1 u2 eh x3 x4 m2
                  go_upto_region 46 with (refine wpList_app (v := .slice ah mc ch) (vx := .slice (some ⟨wr.heap.size, 0, none⟩) 1 1) rfl (.tmp 191) (.tmp 194) 31 rfl rfl rfl hap ?_)
                  obtain ⟨V1, hV1⟩ : ∃ V1, V1 = V.setCell ⟨X hh, 3, none⟩ (.slice (some ⟨g', 0, none⟩) (mc + 1) c') := ⟨_, rfl⟩
                  rw [← hV1]
                  obtain ⟨vh', s5⟩ : ∃ vh', St4 wz wq.heap.size nh len own vc X S SC V1 r (r + 1) vh' evs := by
                    have := S5.out
                    rw [emc, ehh] at this
                    rw [hV1]
                    exact ⟨_, this⟩
                  clear hV1 S5 hap pv3 pf3 px3 prow p8 p9 av r0 hK s4 hvs
                  have m2 := M2.out.same s5.bel
                  obtain ⟨g9', e9, -, -, -, t9⟩ := own_at m2.own9 (by omega)
                  cases e9
                  have p9 := t9 r (.int .i64 (own r : Int)) (by simp [hlt])
                  rw [ehh] at p9
                  clear t9
                  have av := (m2.vcs r hlt).2
                  have r0 := (m2.bel.cell (p := ⟨b, off + r * 3, none⟩) hb).trans (HST.out.1 r hlt).2.1
                  generalize hop : OP r = op2 at r0
                  have b0' : op2 < 256 := by rw [← hop]; exact (HST.out.1 r hlt).2.2.2.2.1
                  clear hop
                  obtain ⟨y1, y2, y3, y4, hy⟩ := s5.hosts hh ho
                  obtain ⟨⟨bs', bx1, bx2, bx3, bx4⟩, cu', u1, u2⟩ := hy
                  have px4 : V1.cell? ⟨X hh, 4, none⟩ = some (.slice (some ⟨S hh, 0, none⟩) nh (SC hh)) := by rw [cell_of_row _ _ _ _ _ _ bx1, bx4]
                  have ps : ∀ k, k < nh → V1.cell? ⟨S hh, k, none⟩ = some (.int .i32 (slotOf hh k : Int)) := fun k hk => by rw [cell_of_row _ _ _ _ _ _ u1]; exact u2 k hk
                  clear bx1 bx2 bx3 bx4 u1 u2 m2
                  have hK : wq.heap.size < V1.heap.size := s5.big
                  have lX : X hh < V1.heap.size := by omega
                  have lS : S hh < V1.heap.size := by omega
                  have lg := av.lt
                  have S5 := hide s5
                  have AV := hide av
                  have PS := hide ps
                  clear s5 av ps
                  have avh := AV.out.cell ho
                  generalize hvo : vc r hh = vo at avh
                  have HVO := hide hvo
                  clear hvo
                  have hsm : ∀ o, o < nh → vc r o ≤ 1000 := fun o ho' => by
                    have h1 := LG.out.early r hlt o ho'
                    have h2 := cntO_le own o (r + 1)
                    omega
                  have HSM := hide hsm
                  clear hsm
                  go_cut [204] from 198 to 204 (fun s204 wq => (∃ t, s204 = .bool t) ∧ wq = V1)
                  case first =>
                    go_wp2
                    go_meet
                    case rel => exact ⟨⟨_, rfl⟩, rfl⟩
                  case rest =>
                    obtain ⟨⟨t, rfl⟩, hwc⟩ := hcut
                    rw [hwc]
                    clear hwc
                    have htt : t = true ∨ t = false := by cases t <;> simp
                    rcases htt with rfl | rfl
                    · go_wp2
                      go_loopw [25] (fun s25 wv => ∃ k : Nat, k ≤ nh ∧ s25 = .int .i64 k ∧ Below V1.heap.size V1 wv ∧ V1.heap.size < wv.heap.size ∧ At wv V1.heap.size nh (fun o => if o < k then vc r (slotOf hh o) else 0)) (fun s25 _ => nh - (intOf s25).toNat)
                      case atStart => exact ⟨0, by omega, rfl, (Below.refl _ _).alloc (Nat.le_refl _) _, by simp, (At.made V1 nh).congr (fun o _ => by simp)⟩
                      case round =>
                        obtain ⟨k, hk, rfl, hbel, hvs, hat⟩ := hrel
                        by_cases hlt7 : k < nh
                        · have hlt7I : (k : Int) < nh := by omega
                          have w1 := (hbel.cell (p := ⟨X hh, 4, none⟩) lX).trans px4
                          have w2 := (hbel.cell (p := ⟨S hh, k, none⟩) lS).trans (PS.out k hlt7)
                          have hsl := slotOf_lt ho hlt7
                          have w3 := (hbel.cell (p := ⟨g r, slotOf hh k, none⟩) lg).trans (AV.out.cell hsl)
                          have w4 := hat.cell hlt7
                          have w5 := hat.frozen k
                          have HB := hide hbel
                          have HA := hide hat
                          clear hbel hat px4 p9 r0 avh
                          generalize hso : slotOf hh k = so at w2 w3 hsl
                          have HSO := hide hso
                          clear hso
                          have hslI : (so : Int) < nh := by omega
                          go_wp2
                          go_roundw
                          case rel =>
                            refine ⟨k + 1, by omega, by go_num, HB.out.setCell (p := ⟨V1.heap.size, k, none⟩) (Nat.le_refl _) _, by simpa using hvs, (HA.out.set k (vc r so)).congr (fun o _ => ?_)⟩
                            unfold upd
                            have hso := HSO.out
                            by_cases e : o = k
                            · subst e
                              simp [hso]
                            · have h3 : o < k ↔ o < k + 1 := by omega
                              simp [e, h3]
                          case measure => simp [intOf]; omega
                        · have hke : nh = k := by omega
                          subst hke
                          have HB := hide hbel
                          have HA := hide hat
                          clear hbel hat px4 p9 r0 avh hlt7
                          have s6 := S5.out.below HB.out
                          obtain ⟨⟨z0, z1, z2, z3, f0, f1, f2, f3⟩, ff⟩ := s6.place hlt
                          have ff0 := ff (r * 4)
                          have ff1 := ff (r * 4 + 1)
                          have ff2 := ff (r * 4 + 2)
                          have ff3 := ff (r * 4 + 3)
                          clear ff
                          have S6 := hide s6
                          clear s6
                          go_wp2
                          go_roundw
                          case rel =>
                            subst ehh
                            refine ⟨r + 1, vh', snoc evs r _, by omega, by go_num, S6.out.store hlt (part_dense ho HSM.out hK (HA.out.congr (fun o ho' => by simp [ho'])))⟩
                          case measure => simp [intOf]; omega
                    · go_wp2
                      go_loopw [26, 27, 28] (fun s26 s27 s28 wv => ∃ (k : Nat) (cs ks : List Nat) (cn cc bb bc : Nat), 1 ≤ k ∧ k ≤ nh ∧ s28 = .int .i64 k ∧ s26 = .slice (some ⟨cn, 0, none⟩) (cs.length + 1) cc ∧ s27 = .slice (some ⟨bb, 0, none⟩) (cs.length + 1) bc ∧
                        wv.ownsRow V1.heap.size 29 1 (.slice (some ⟨cn, 0, none⟩) (cs.length + 1) cc) (cs.length + 1) ((vo :: cs).map fun c : Nat => Value.int .u64 (c : Int)) ∧
                        wv.ownsRow V1.heap.size 21 1 (.slice (some ⟨bb, 0, none⟩) (cs.length + 1) bc) (cs.length + 1) (ks.map fun c : Nat => Value.int .i32 (c : Int)) ∧
                        ks.length = cs.length + 1 ∧ cs.length + 1 ≤ k ∧ (∀ c ∈ cs, c ≤ 1000) ∧ (∀ c ∈ ks, c < nh) ∧ cs.sum = sumTo (fun k => vc r (slotOf hh k)) k ∧ Below V1.heap.size V1 wv) (fun _ _ s28 _ => nh - (intOf s28).toNat)
                      case atStart =>
                        refine ⟨1, [], [0], V1.heap.size, 1, V1.heap.size + 1, 1, by omega, by omega, rfl, rfl, rfl, (own_one V1 29 (.int .u64 (vo : Int))).alloc _, own_mono ?_ (Nat.le_succ V1.heap.size), rfl, by simp, by simp, by simp; omega, by simp [sumTo], ((Below.refl _ _).alloc (Nat.le_refl _) _).alloc (by simp) _⟩
                        have := own_one (V1.alloc (.cells #[.int .u64 (vo : Int)] 29)) 21 (.int .i32 0)
                        rwa [World.size_alloc] at this
                      case round =>
                        obtain ⟨k, cs, ks, cn, cc, bb, bc, hk1, hk, rfl, rfl, rfl, h26, h27, hkl, hcl, hcs, hks, hsum, hbel⟩ := hrel
                        by_cases hlt8 : k < nh
                        · have hlt8I : (k : Int) < nh := by omega
                          have w1 := (hbel.cell (p := ⟨X hh, 4, none⟩) lX).trans px4
                          have w2 := (hbel.cell (p := ⟨S hh, k, none⟩) lS).trans (PS.out k hlt8)
                          have hsl := slotOf_lt ho hlt8
                          have w3 := (hbel.cell (p := ⟨g r, slotOf hh k, none⟩) lg).trans (AV.out.cell hsl)
                          have hvb := HSM.out _ hsl
                          generalize hvx : vc r (slotOf hh k) = vx at w3 hvb
                          generalize hso : slotOf hh k = so at w2 w3 hsl
                          have hslI : (so : Int) < nh := by omega
                          have hsn : sumTo (fun k => vc r (slotOf hh k)) (k + 1) = cs.sum + vx := by
                            have hk0 : ¬ k = 0 := by omega
                            simp only [sumTo, hk0, if_false]
                            rw [hsum, hvx]
                          have HSN := hide hsn
                          have HSUM := hide hsum
                          have HCS := hide hcs
                          have HKS := hide hks
                          clear hsn hsum hcs hks hvx hso px4 p9 r0 avh
                          by_cases hv0 : vx = 0
                          · have HV := hide hv0
                            rw [hv0] at w3
                            have H26 := hide h26
                            have H27 := hide h27
                            have HB := hide hbel
                            clear h26 h27 hbel hv0
                            go_wp2
                            go_roundw
                            case rel => exact ⟨k + 1, cs, ks, cn, cc, bb, bc, by omega, by omega, by go_num, rfl, rfl, H26.out, H27.out, hkl, by omega, HCS.out, HKS.out, by rw [HSN.out, HV.out]; rfl, HB.out⟩
                            case measure => simp [intOf]; omega
                          · have hv0I : ¬ (vx : Int) = 0 := by omega
                            obtain ⟨g1, c1, Va, g2, c2, Vb, ap1, ap2, o1, o2, hbb, -⟩ := sparse_step h26 h27 hbel hbel.size (by omega) vx k
                            have O1 := hide o1
                            have O2 := hide o2
                            have HB := hide hbb
                            clear o1 o2 hbb h26 h27 hbel
                            go_upto_region 61 with (refine wpList_app (v := .slice (some ⟨cn, 0, none⟩) (cs.length + 1) cc) (vx := .slice (some ⟨wr.heap.size, 0, none⟩) 1 1) rfl (.tmp 260) (.tmp 262) 24 rfl rfl rfl ap1 ?_)
                            clear ap1
                            go_wp2_with (refine wpList_app (v := .slice (some ⟨bb, 0, none⟩) (cs.length + 1) bc) (vx := .slice (some ⟨Va.heap.size, 0, none⟩) 1 1) rfl (.tmp 264) (.tmp 267) 31 rfl rfl rfl ap2 ?_)
                            go_roundw
                            case rel =>
                              have el : (cs ++ [vx]).length = cs.length + 1 := by simp
                              refine ⟨k + 1, cs ++ [vx], ks ++ [k], g1, c1, g2, c2, by omega, by omega, by go_num, by rw [el], by rw [el], ?_, ?_, by rw [el]; simp [hkl], by rw [el]; omega, ?_, ?_, by rw [HSN.out]; simp, HB.out⟩
                              · rw [el]
                                simpa using O1.out
                              · rw [el]
                                simpa using O2.out
                              · intro c hc
                                rcases List.mem_append.1 hc with h | h
                                · exact HCS.out c h
                                · simp at h; omega
                              · intro c hc
                                rcases List.mem_append.1 hc with h | h
                                · exact HKS.out c h
                                · simp at h; omega
                            case measure => simp [intOf]; omega
                        · have hke : nh = k := by omega
                          subst hke
                          have s6 := S5.out.below hbel
                          obtain ⟨⟨z0, z1, z2, z3, f0, f1, f2, f3⟩, ff⟩ := s6.place hlt
                          have ff0 := ff (r * 4)
                          have ff1 := ff (r * 4 + 1)
                          have ff2 := ff (r * 4 + 2)
                          have ff3 := ff (r * 4 + 3)
                          clear ff
                          have hvob : vo ≤ 1000 := by rw [← HVO.out]; exact HSM.out _ ho
                          have hpart : EvPart wr wq.heap.size nh vh' own vc X r #[.int .i64 ((r : Int) + 1), .pointer (some ⟨X hh, 0, none⟩), .slice (some ⟨cn, 0, none⟩) (cs.length + 1) cc, .slice (some ⟨bb, 0, none⟩) (cs.length + 1) bc] := by
                            have ho' := ho
                            rw [← ehh] at ho' hsum ⊢
                            refine part_sparse ho' hK h26 h27 hkl hcl (fun c hc => ?_) hks hsum (fun h hh' k hk => ?_)
                            · rcases List.mem_cons.1 hc with rfl | hc
                              · exact hvob
                              · exact hcs c hc
                            · obtain ⟨ys, hys⟩ := S5.out.rows h hh'
                              obtain ⟨_, cu2, q2⟩ := own_block hys hk
                              exact (Array.getElem?_eq_some_iff.1 q2).1
                          have S6 := hide s6
                          have HP := hide hpart
                          clear s6 hpart h26 h27 hcs hks hsum hbel px4 p9 r0 avh hlt8
                          go_wp2
                          go_roundw
                          case rel => exact ⟨r + 1, vh', snoc evs r _, by omega, by go_num, S6.out.store hlt HP.out⟩
                          case measure => simp [intOf]; omega
                · have hre : len = r := by omega
                  subst hre
                  have S4 := hide s4
                  clear s4 hlt hr
                  go_wp2_with fail
                  refine (pairs_calls _ _ len nh _ _ (by omega) (by omega) (fun h _ => Nat.le_trans (cntO_le own h len) (by omega)) (S4.out.log LG.out.host (by omega) rfl rfl)).mono ?_
                  rintro e W7 ⟨rfl, hb7⟩
                  have hgot := (pairs_law LG.out (fun i j => leB (vc i) (vc j) nh) (fun i j _ _ => leB_iff (vc i) (vc j) nh)).trans (sum_swap (fun i j => !leB (vc i) (vc j) nh && !leB (vc j) (vc i) nh) len)
                  obtain ⟨G, hG⟩ : ∃ G, tri len - sumI (fun o => tri (cntO own o len)) nh - sumI (fun i => (others nh own vc i : Int)) len = G := ⟨_, rfl⟩
                  rw [hG] at hgot ⊢
                  have HGOT := hide hgot
                  have M7 := hide (M2.out.same ((S4.out.bel.alloc (by have := S4.out.bel.size; omega) _).trans (hb7.mono (by have := S4.out.bel.size; simp; omega))))
                  clear hG hgot hb7 S4 S3 M2 HCE mk36 mk30 mk23 mk24
                  go_wp2
                  go_loopw [32, 33] (fun s32 s33 wv => ∃ (i m : Nat) (z : Int), i ≤ len ∧ s33 = .int .i64 i ∧ s32 = .int .i64 z ∧ z = sumI (fun i => (cntP (fun d => !leB (vc i) (vc (i + 1 + d)) nh && !leB (vc (i + 1 + d)) (vc i) nh) (len - (i + 1)) : Int)) i ∧ wv = W7.drewN m) (fun _ s33 _ => len - (intOf s33).toNat)
                  case atStart => exact ⟨0, 0, 0, by omega, rfl, rfl, rfl, rfl⟩
                  case round =>
                    obtain ⟨i, m, z, hi, rfl, rfl, hz, rfl⟩ := hrel
                    have HZ := hide hz
                    have hzb : 0 ≤ z ∧ z ≤ 400 * i := by
                      rw [hz]
                      exact sumI_bound _ 400 i (fun j hj => ⟨by omega, by have := cntP_le (fun d => !leB (vc j) (vc (j + 1 + d)) nh && !leB (vc (j + 1 + d)) (vc j) nh) (len - (j + 1)); omega⟩)
                    clear hz
                    by_cases hlt : i < len
                    · have hltI : (i : Int) < len := by omega
                      go_wp2
                      go_loopw [32, 34] (fun s32 s34 wv => ∃ (d m : Nat) (z' : Int), i + 1 + d ≤ len ∧ s34 = .int .i64 ((i + 1 + d : Nat) : Int) ∧ s32 = .int .i64 z' ∧ z' = z + (cntP (fun d => !leB (vc i) (vc (i + 1 + d)) nh && !leB (vc (i + 1 + d)) (vc i) nh) d : Int) ∧ wv = W7.drewN m) (fun _ s34 _ => len - (intOf s34).toNat)
                      case atStart => exact ⟨0, m, z, by omega, by simp, rfl, by simp [cntP], rfl⟩
                      case round =>
                        obtain ⟨d, m', z', hd, rfl, rfl, hz', rfl⟩ := hrel
                        have HZ' := hide hz'
                        have hzb' : 0 ≤ z' ∧ z' ≤ 400 * i + d := by
                          have := cntP_le (fun d => !leB (vc i) (vc (i + 1 + d)) nh && !leB (vc (i + 1 + d)) (vc i) nh) d
                          omega
                        clear hz'
                        have hzb1 : 0 ≤ z' := hzb'.1
                        have hzb2 : z' ≤ 200000 := by omega
                        obtain ⟨j, hj⟩ : ∃ j, i + 1 + d = j := ⟨_, rfl⟩
                        rw [hj] at hd ⊢
                        have HJ := hide hj
                        by_cases hltj : j < len
                        · have hltjI : (j : Int) < len := by omega
                          obtain ⟨g8, rfl, -, -, -, t8⟩ := own_at M7.out.own8 (by omega)
                          have p1 := t8 i (.slice (some ⟨g i, 0, none⟩) nh nh) (by simp [hlt])
                          have p2 := t8 j (.slice (some ⟨g j, 0, none⟩) nh nh) (by simp [hltj])
                          clear t8
                          have A1 := (M7.out.vcs i hlt).2
                          have A2 := (M7.out.vcs j hltj).2
                          obtain ⟨b1, hb1⟩ : ∃ b1, leB (vc i) (vc j) nh = b1 := ⟨_, rfl⟩
                          obtain ⟨b2, hb2⟩ : ∃ b2, leB (vc j) (vc i) nh = b2 := ⟨_, rfl⟩
                          have L1 : ∀ k, Calls Yba.prog 7 #[.slice (some ⟨g i, 0, none⟩) nh nh, .slice (some ⟨g j, 0, none⟩) nh nh] (W7.drewN k) fun e w' => e = .returned (.bool b1) ∧ ∃ m, w' = (W7.drewN k).drewN m := fun k => by
                            rw [← hb1]
                            exact le_any _ _ nh nh nh _ _ _ (A1.drawn k) (A2.drawn k) (by omega)
                          have L2 : ∀ k, Calls Yba.prog 7 #[.slice (some ⟨g j, 0, none⟩) nh nh, .slice (some ⟨g i, 0, none⟩) nh nh] (W7.drewN k) fun e w' => e = .returned (.bool b2) ∧ ∃ m, w' = (W7.drewN k).drewN m := fun k => by
                            rw [← hb2]
                            exact le_any _ _ nh nh nh _ _ _ (A2.drawn k) (A1.drawn k) (by omega)
                          have HB := hide (And.intro hb1 hb2)
                          have L1' := hide L1
                          have L2' := hide L2
                          clear hb1 hb2 L1 L2 A1 A2 hj
                          cases b1
                          · cases b2
                            · go_wp2
                              go_quiet (first | (go_at_call_of 7 (#[Value.slice (some ⟨g i, 0, none⟩) nh nh, Value.slice (some ⟨g j, 0, none⟩) nh nh]); exact quiet_at (L1'.out _)) | (go_at_call_of 7 (#[Value.slice (some ⟨g j, 0, none⟩) nh nh, Value.slice (some ⟨g i, 0, none⟩) nh nh]); exact quiet_at (L2'.out _)))
                              go_wp2
                              go_roundw
                              case rel =>
                                have hj' := HJ.out
                                have hbb := HB.out
                                refine ⟨d + 1, m' + nq, z' + 1, by omega, by rw [show ((i + 1 + (d + 1) : Nat) : Int) = (j : Int) + 1 by omega], rfl, ?_, by first | rfl | rw [World.drewN_drewN]⟩
                                have hz2 := HZ'.out
                                have hp : (fun d => !leB (vc i) (vc (i + 1 + d)) nh && !leB (vc (i + 1 + d)) (vc i) nh) d = true := by
                                  show (!leB (vc i) (vc (i + 1 + d)) nh && !leB (vc (i + 1 + d)) (vc i) nh) = _
                                  rw [hj', hbb.1, hbb.2]
                                  rfl
                                rw [cntP_step hp]
                                simp
                                omega
                              case measure => simp [intOf]; omega
                            · go_wp2
                              go_quiet (first | (go_at_call_of 7 (#[Value.slice (some ⟨g i, 0, none⟩) nh nh, Value.slice (some ⟨g j, 0, none⟩) nh nh]); exact quiet_at (L1'.out _)) | (go_at_call_of 7 (#[Value.slice (some ⟨g j, 0, none⟩) nh nh, Value.slice (some ⟨g i, 0, none⟩) nh nh]); exact quiet_at (L2'.out _)))
                              go_wp2
                              go_roundw
                              case rel =>
                                have hj' := HJ.out
                                have hbb := HB.out
                                refine ⟨d + 1, m' + nq, z', by omega, by rw [show ((i + 1 + (d + 1) : Nat) : Int) = (j : Int) + 1 by omega], rfl, ?_, by first | rfl | rw [World.drewN_drewN]⟩
                                have hz2 := HZ'.out
                                have hp : (fun d => !leB (vc i) (vc (i + 1 + d)) nh && !leB (vc (i + 1 + d)) (vc i) nh) d = false := by
                                  show (!leB (vc i) (vc (i + 1 + d)) nh && !leB (vc (i + 1 + d)) (vc i) nh) = _
                                  rw [hj', hbb.1, hbb.2]
                                  rfl
                                rw [cntP_step hp]
                                simp
                                omega
                              case measure => simp [intOf]; omega
                          · go_wp2
                            go_quiet (first | (go_at_call_of 7 (#[Value.slice (some ⟨g i, 0, none⟩) nh nh, Value.slice (some ⟨g j, 0, none⟩) nh nh]); exact quiet_at (L1'.out _)) | (go_at_call_of 7 (#[Value.slice (some ⟨g j, 0, none⟩) nh nh, Value.slice (some ⟨g i, 0, none⟩) nh nh]); exact quiet_at (L2'.out _)))
                            go_wp2
                            go_roundw
                            case rel =>
                              have hj' := HJ.out
                              have hbb := HB.out
                              refine ⟨d + 1, m' + nq, z', by omega, by rw [show ((i + 1 + (d + 1) : Nat) : Int) = (j : Int) + 1 by omega], rfl, ?_, by first | rfl | rw [World.drewN_drewN]⟩
                              have hz2 := HZ'.out
                              have hp : (fun d => !leB (vc i) (vc (i + 1 + d)) nh && !leB (vc (i + 1 + d)) (vc i) nh) d = false := by
                                show (!leB (vc i) (vc (i + 1 + d)) nh && !leB (vc (i + 1 + d)) (vc i) nh) = _
                                rw [hj', hbb.1]
                                rfl
                              rw [cntP_step hp]
                              simp
                              omega
                            case measure => simp [intOf]; omega
                        · have hje : len = j := by omega
                          go_wp2
                          go_roundw
                          case rel =>
                            have hj' := HJ.out
                            refine ⟨i + 1, m', z', by omega, by go_num, rfl, ?_, rfl⟩
                            rw [HZ'.out]
                            simp only [sumI]
                            rw [HZ.out, show len - (i + 1) = d by omega]
                          case measure => simp [intOf]; omega
                    · have hie : len = i := by omega
                      go_wp2
                      go_ret
                      have hz2 := HZ.out
                      have hg2 := HGOT.out
                      rw [← hie] at hz2
                      exact ⟨ret_bool (by rw [hg2, hz2]; simp), M7.out.bel.trans ⟨rfl, rfl, rfl, Nat.le_refl _, fun _ _ => rfl⟩⟩
end Go.Proofs.Ybulkcubo
