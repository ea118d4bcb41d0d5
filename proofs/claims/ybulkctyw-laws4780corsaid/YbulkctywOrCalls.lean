/-
  The walks of (*Map).entries and Or at Map[uint8, uint16].
-/
import Derived.Test.YbulkctywOrParts
import Derived.WalkKit
import Derived.WalkSpells
import Derived.WalkLawsBesides
import Derived.OpenShut
namespace Go.Proofs.Ybulkctyw
open Go.RowKit Go.Maps

theorem entries_some (p b : Nat) (c1 c2 c3 : Value) (w : World) (hp : w.heap[p]? = some (.cells #[.map (some b), c1, c2, c3] 60 (0, 0))) :
    Calls Yba.prog 17 #[.pointer (some ⟨p, 0, none⟩)] w fun e w' => e = .returned (.map (some b)) ∧ w' = w := by
  have h0 : w.cell? ⟨p, 0, none⟩ = some (.map (some b)) := by simp [World.cell?, hp]
  have hn := fun w => run_eql_map_nil (P := Yba.prog) w 57 5 54 (some b) Yba.underlying57
  go_enter Yba.func17, Yba.ntmps17
  go_wp2
  go_ret
  exact ⟨rfl, rfl⟩

theorem entries_none (p : Nat) (c1 c2 c3 : Value) (w : World) (hp : w.heap[p]? = some (.cells #[.map none, c1, c2, c3] 60 (0, 0))) :
    Calls Yba.prog 17 #[.pointer (some ⟨p, 0, none⟩)] w fun e w' => e = .returned (.map (some w.heap.size)) ∧ (w.setCell ⟨p, 0, none⟩ (.map (some w.heap.size))).alloc (.map #[] 0) = w' := by
  have hlt : p < w.heap.size := lt_of_block hp
  have h0 : w.cell? ⟨p, 0, none⟩ = some (.map none) := by simp [World.cell?, hp]
  have h1 : w.frozen? ⟨p, 0, none⟩ = false := by simp [World.frozen?, hp]
  have hn := fun w => run_eql_map_nil (P := Yba.prog) w 57 5 54 none Yba.underlying57
  have hmm := @run_makeMap Yba.prog
  have h2 : (w.setCell ⟨p, 0, none⟩ (.map (some w.heap.size))).cell? ⟨p, 0, none⟩ = some (.map (some w.heap.size)) := World.cell?_setCell_same w _ _ h0
  go_enter Yba.func17, Yba.ntmps17
  go_wp2
  go_ret
  exact ⟨rfl, rfl⟩

/-- What Or turns: its record's block, and the two maps'. -/
def OrMay (p : Nat) (mM mO : Option Nat) (j : Nat) : Prop := j = p ∨ mM = some j ∨ mO = some j

/-- (*Map).entries, whether or not the map is there. -/
theorem entries_any (p : Nat) (mM mO : Option Nat) (c2 c3 : Value) (f g : KM) (w : World) (hp : w.heap[p]? = some (.cells #[.map mM, .map mO, c2, c3] 60 (0, 0)))
    (hM : MapAt w mM f) (hO : MapAt w mO g) (hnM : mM ≠ some p) (hnO : mO ≠ some p) (hMO : ∀ b, mM = some b → mO ≠ some b) :
    Calls Yba.prog 17 #[.pointer (some ⟨p, 0, none⟩)] w fun e w' => ∃ b, e = .returned (.map (some b)) ∧ w'.heap[p]? = some (.cells #[.map (some b), .map mO, c2, c3] 60 (0, 0)) ∧
      Om w' b f ∧ MapAt w' mO g ∧ b ≠ p ∧ mO ≠ some b ∧ (mM = some b ∨ b = w.heap.size) ∧ KeptBut (OrMay p mM mO) w w' := by
  rcases hM with ⟨rfl, hM⟩ | ⟨b, rfl, hM⟩
  · refine (entries_none p _ _ _ w hp).mono ?_
    rintro e w' ⟨rfl, rfl⟩
    have hlt : p < w.heap.size := lt_of_block hp
    have hO2 : ∀ b, mO = some b → b < w.heap.size := by
      intro b hb
      rcases hO with ⟨rfl, _⟩ | ⟨b', rfl, h⟩
      · cases hb
      · cases hb; exact h.lt
    refine ⟨_, rfl, ?_, ?_, ?_, by omega, fun e => ?_, .inr rfl, ?_⟩
    · rw [Below.heap_alloc _ _ _ (by simpa using hlt)]
      have := heap_setCell_same w p 0 _ 60 (.map (some w.heap.size)) hp
      simpa using this
    · have := Om.made (w.setCell ⟨p, 0, none⟩ (.map (some w.heap.size)))
      rw [World.size_setCell] at this
      exact this.congr (fun k hk => (hM k hk).symm)
    · refine hO.same fun b hb => ?_
      rw [Below.heap_alloc _ _ _ (by simpa using hO2 b hb), Below.heap_setCell _ _ _ _ (fun e => hnO (by rw [hb, e]))]
    · have := hO2 _ e
      omega
    · exact (KeptBut.setCell w _ _ (.inl rfl)).trans (KeptBut.alloc _ _ _)
  · refine (entries_some p b _ _ _ w hp).mono ?_
    rintro e w' ⟨rfl, rfl⟩
    exact ⟨b, rfl, hp, hM, hO, fun e => hnM (by rw [e]), hMO b rfl, .inl rfl, KeptBut.refl _ _⟩

/-- The value that the key has before Or. -/
def prior (f g : KM) (k : Nat) : Int := if (f k).isSome then (f k).getD 0 else (g k).getD 0

/-- What the tail of Or does: the look-up, the or, the store: in the words of the map. -/
theorem or_tail {w : World} {b : Nat} {f : KM} (h : Om w b f) {kk : Nat} (hkk : kk < 16) {fl : Int} :
    ∃ w', Sem.run Yba.prog (Instr.mapUpdate 57 (.map (some b)) (.int .u8 (kk : Int)) (.int .u16 (bits BinOp.or IntKind.u16 ((f kk).getD 0) fl))) w = .ok () w' ∧
      Om w' b (kput f kk (bits BinOp.or IntKind.u16 ((f kk).getD 0) fl)) ∧ w.mapTurned w' b :=
  h.put hkk (wf_bits _ _ _ _)

theorem added_is (f : KM) (kk : Nat) (hkk : kk < 16) (v : Int) : decide (cnt f 16 < cnt (kput f kk v) 16) = !(f kk).isSome := by
  rw [cnt_put f kk v 16 hkk]
  cases (f kk).isSome <;> simp

theorem ret_bool {a b : Bool} (h : a = b) : Ending.returned (.bool a) = .returned (.bool b) := by rw [h]

/-- What Or leaves. -/
def OrPost (p kk : Nat) (fl : Int) (mM mO : Option Nat) (c2 c3 : Value) (f g : KM) (w w' : World) : Prop :=
  ∃ b, w'.heap[p]? = some (.cells #[.map (some b), .map mO, c2, c3] 60 (0, 0)) ∧ Om w' b (kput f kk (bits BinOp.or IntKind.u16 (prior f g kk) fl)) ∧ MapAt w' mO (kdel g kk) ∧ (mM = some b ∨ b = w.heap.size) ∧ KeptBut (OrMay p mM mO) w w'

theorem or_post_plain {p kk b : Nat} {fl : Int} {mM mO : Option Nat} {c2 c3 : Value} {f g : KM} {w w1 w2 : World} (hg : g kk = none)
    (hp1 : w1.heap[p]? = some (.cells #[.map (some b), .map mO, c2, c3] 60 (0, 0))) (hO1 : MapAt w1 mO g) (hbp : b ≠ p) (hbO : mO ≠ some b) (hb : mM = some b ∨ b = w.heap.size) (hk1 : KeptBut (OrMay p mM mO) w w1)
    (hM2 : Om w2 b (kput f kk (bits BinOp.or IntKind.u16 ((f kk).getD 0) fl))) (ht : w1.mapTurned w2 b) : OrPost p kk fl mM mO c2 c3 f g w w2 := by
  have g2 := ht.grown
  have e : prior f g kk = (f kk).getD 0 := by
    unfold prior
    rw [hg]
    cases f kk <;> simp
  refine ⟨b, (g2.block p (lt_of_block hp1) (fun e => hbp (by injection e with e; exact e.symm))).trans hp1, by rw [e]; exact hM2, ?_, hb, ?_⟩
  · refine MapAt.congr (f := g) (hO1.same fun bo hbo => g2.block bo ?_ (fun e => hbO (by rw [hbo, e]))) (fun k hk => ?_)
    · rcases hO1 with ⟨rfl, _⟩ | ⟨b', rfl, h⟩
      · cases hbo
      · cases hbo; exact h.lt
    · by_cases e : k = kk
      · subst e; rw [kdel_same, hg]
      · rw [kdel_other e]
  · have k2 : KeptBut (fun j => j = b) w1 w2 := KeptBut.turned ht rfl
    refine ⟨k2.os.trans hk1.os, k2.tape.trans hk1.tape, k2.output.trans hk1.output, Nat.le_trans hk1.size k2.size, fun j hj hs => ?_⟩
    refine (k2.block j (by have := hk1.size; omega) (fun e => ?_)).trans (hk1.block j hj hs)
    subst e
    rcases hb with h | h
    · exact hs (.inr (.inl h))
    · omega

theorem or_post_moved {p kk b bo : Nat} {fl : Int} {mM : Option Nat} {c2 c3 : Value} {f g : KM} {w w1 w2 w3 w4 : World} {v : Int} (hg : g kk = some v) (hf : f kk = none)
    (hp1 : w1.heap[p]? = some (.cells #[.map (some b), .map (some bo), c2, c3] 60 (0, 0))) (hbp : b ≠ p) (hop : bo ≠ p) (hbO : bo ≠ b) (hb : mM = some b ∨ b = w.heap.size) (hk1 : KeptBut (OrMay p mM (some bo)) w w1)
    (hO2 : Om w2 bo (kdel g kk)) (ht2 : w1.mapTurned w2 bo) (ht3 : w2.mapTurned w3 b)
    (hM4 : Om w4 b (kput (kput f kk v) kk (bits BinOp.or IntKind.u16 v fl))) (ht4 : w3.mapTurned w4 b) : OrPost p kk fl mM (some bo) c2 c3 f g w w4 := by
  have g2 := ht2.grown
  have g3 := ht3.grown
  have g4 := ht4.grown
  have e : prior f g kk = v := by
    unfold prior
    rw [hg, hf]
    rfl
  have hlt := lt_of_block hp1
  have hlo := hO2.lt
  have s2 := g2.size
  have s3 := g3.size
  refine ⟨b, ?_, ?_, .inr ⟨bo, rfl, ?_⟩, hb, ?_⟩
  · refine (g4.block p (by omega) (fun e => hbp (by injection e with e; exact e.symm))).trans ((g3.block p (by omega) (fun e => hbp (by injection e with e; exact e.symm))).trans ((g2.block p hlt (fun e => hop (by injection e with e; exact e.symm))).trans hp1))
  · rw [e]
    refine hM4.congr fun k _ => ?_
    by_cases e : k = kk
    · subst e; rw [kput_same, kput_same]
    · rw [kput_other _ e, kput_other _ e, kput_other _ e]
  · exact hO2.same ((g4.block bo (by omega) (fun e => hbO (by injection e))).trans (g3.block bo (by omega) (fun e => hbO (by injection e))))
  · have k : KeptBut (fun j => j = b ∨ j = bo) w1 w4 := ((KeptBut.turned ht2 (.inr rfl)).trans (KeptBut.turned ht3 (.inl rfl))).trans (KeptBut.turned ht4 (.inl rfl))
    refine ⟨k.os.trans hk1.os, k.tape.trans hk1.tape, k.output.trans hk1.output, Nat.le_trans hk1.size k.size, fun j hj hs => ?_⟩
    refine (k.block j (by have := hk1.size; omega) (fun e => ?_)).trans (hk1.block j hj hs)
    rcases e with rfl | rfl
    · rcases hb with h | h
      · exact hs (.inr (.inl h))
      · omega
    · exact hs (.inr (.inr rfl))

theorem or_any (p kk : Nat) (fl : Int) (mM mO : Option Nat) (c2 c3 : Value) (f g : KM) (w : World) (hkk : kk < 16) (hp : w.heap[p]? = some (.cells #[.map mM, .map mO, c2, c3] 60 (0, 0)))
    (hM : MapAt w mM f) (hO : MapAt w mO g) (hnM : mM ≠ some p) (hnO : mO ≠ some p) (hMO : ∀ b, mM = some b → mO ≠ some b) (hd : f kk = none ∨ g kk = none) :
    Calls Yba.prog 15 #[.pointer (some ⟨p, 0, none⟩), .int .u8 (kk : Int), .int .u16 fl] w fun e w' =>
      e = .returned (.bool (!(f kk).isSome && !(g kk).isSome)) ∧ OrPost p kk fl mM mO c2 c3 f g w w' := by
  go_enter Yba.func15, Yba.ntmps15
  go_wp2_with fail
  refine (entries_any p mM mO c2 c3 f g w hp hM hO hnM hnO hMO).mono ?_
  rintro e w1 ⟨b, rfl, hp1, hM1, hO1, hbp, hbO, hb, hk1⟩
  clear hM hO hp hnM hMO
  have h1 : w1.cell? ⟨p, 1, none⟩ = some (.map mO) := by simp [World.cell?, hp1]
  have hn := fun w m => run_neq_map_nil (P := Yba.prog) w 57 5 54 m Yba.underlying57
  have hO1' := hO1
  rcases hO1 with ⟨rfl, hO1⟩ | ⟨bo, rfl, hO1⟩
  · have hg : g kk = none := hO1 kk hkk
    have hl := hM1.len
    have hk := hM1.look1 hkk
    obtain ⟨w2, hs2, hM2, ht2⟩ := or_tail hM1 hkk (fl := fl)
    have hl2 := hM2.len
    have hfin := or_post_plain hg hp1 hO1' hbp hbO hb hk1 hM2 ht2
    clear hM1 hM2 hO1 hO1' hp1 hbp hbO hb hk1 ht2 hnO
    have HG : Hid (g kk = none) := hg
    clear hg hd
    go_wp2
    go_ret
    exact ⟨ret_bool (by rw [added_is f kk hkk, HG.out]; simp), hfin⟩
  · have hlo := hO1.look hkk
    rcases hg : g kk with _ | v
    · have hl := hM1.len
      have hk := hM1.look1 hkk
      obtain ⟨w2, hs2, hM2, ht2⟩ := or_tail hM1 hkk (fl := fl)
      have hl2 := hM2.len
      have hfin := or_post_plain hg hp1 hO1' hbp hbO hb hk1 hM2 ht2
      rw [hg] at hlo
      have HG : Hid (g kk = none) := hg
      clear hM1 hM2 hO1 hO1' hp1 hbp hbO hb hk1 ht2 hnO hd hg
      go_wp2
      go_ret
      exact ⟨ret_bool (by rw [added_is f kk hkk, HG.out]; simp), hfin⟩
    · have hf : f kk = none := by
        rcases hd with h | h
        · exact h
        · rw [hg] at h; cases h
      have hwv := hO1.wf hkk
      rw [hg] at hlo hwv
      simp only [Option.getD_some] at hwv
      have hbo : bo ≠ b := fun e => hbO (by rw [e])
      obtain ⟨w2, hr2, hO2, ht2⟩ := hO1.del hkk 0
      have hM2 : Om w2 b f := hM1.same (ht2.grown.block b hM1.lt (fun e => hbo (by injection e with e; exact e.symm)))
      obtain ⟨w3, hr3, hM3, ht3⟩ := hM2.put hkk hwv
      have hl := hM3.len
      have hk := hM3.look1 hkk
      rw [kput_same] at hk
      simp only [Option.getD_some] at hk
      obtain ⟨w4, hr4, hM4, ht4⟩ := or_tail hM3 hkk (fl := fl)
      rw [kput_same] at hr4 hM4
      simp only [Option.getD_some] at hr4 hM4
      have hl4 := hM4.len
      have hfin := or_post_moved hg hf hp1 hbp (fun e => hnO (by rw [e])) hbo hb hk1 hO2 ht2 ht3 hM4 ht4
      have HG : Hid (g kk = some v) := hg
      clear hM1 hM2 hM3 hM4 hO1 hO1' hO2 hp1 hbp hbO hb hk1 ht2 ht3 ht4 hnO hd hg hf
      go_wp2
      go_ret
      exact ⟨ret_bool (by rw [added_is (kput f kk v) kk hkk, kput_same, HG.out]; simp), hfin⟩
end Go.Proofs.Ybulkctyw
