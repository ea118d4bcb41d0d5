/-
  Plain parts for keymap.LawS4780COr: a map from 0..15 to numbers as a function, the model's map block that reads as it, and what look-up, store, delete and len do to it.
-/
import Derived.Test.YbulkctywRows
import Derived.WalkKit
import Derived.Maps.OwnSet
namespace Go.Proofs.Ybulkctyw
open Go.RowKit Go.Maps

/-- A map from small keys to numbers. -/
abbrev KM := Nat → Option Int
def kput (f : KM) (k : Nat) (v : Int) : KM := fun j => if j = k then some v else f j
def kdel (f : KM) (k : Nat) : KM := fun j => if j = k then none else f j
theorem kput_same (f : KM) (k : Nat) (v : Int) : kput f k v k = some v := by simp [kput]
theorem kput_other {f : KM} {k j : Nat} (v : Int) (h : j ≠ k) : kput f k v j = f j := by simp [kput, h]
theorem kdel_same (f : KM) (k : Nat) : kdel f k k = none := by simp [kdel]
theorem kdel_other {f : KM} {k j : Nat} (h : j ≠ k) : kdel f k j = f j := by simp [kdel, h]
/-- How many of the keys below n are there. -/
def cnt (f : KM) : Nat → Nat
  | 0 => 0
  | n + 1 => cnt f n + (if (f n).isSome then 1 else 0)
theorem cnt_le (f : KM) : ∀ n, cnt f n ≤ n
  | 0 => Nat.le_refl _
  | n + 1 => by have := cnt_le f n; simp only [cnt]; split <;> omega
theorem cnt_congr {f g : KM} : ∀ n, (∀ j, j < n → (f j).isSome = (g j).isSome) → cnt f n = cnt g n
  | 0, _ => rfl
  | n + 1, h => by simp only [cnt]; rw [cnt_congr n (fun j hj => h j (by omega)), h n (by omega)]
theorem cnt_put (f : KM) (k : Nat) (v : Int) : ∀ n, k < n → cnt (kput f k v) n = if (f k).isSome then cnt f n else cnt f n + 1
  | 0, h => by omega
  | n + 1, h => by
    simp only [cnt]
    by_cases e : k = n
    · subst e
      rw [kput_same, cnt_congr (f := kput f k v) (g := f) k (fun j hj => by rw [kput_other v (by omega)])]
      cases (f k).isSome <;> simp
    · rw [cnt_put f k v n (by omega), kput_other v (by omega)]
      cases (f k).isSome <;> simp <;> omega
theorem cnt_del (f : KM) (k : Nat) : ∀ n, k < n → cnt (kdel f k) n + (if (f k).isSome then 1 else 0) = cnt f n
  | 0, h => by omega
  | n + 1, h => by
    simp only [cnt]
    by_cases e : k = n
    · subst e
      rw [kdel_same, cnt_congr (f := kdel f k) (g := f) k (fun j hj => by rw [kdel_other (by omega)])]
      simp
    · have := cnt_del f k n (by omega)
      rw [kdel_other (by omega)]
      omega

/-! ### the map's block -/
theorem law5 : Keyed Yba.prog 5 := int_keyed Yba.underlying5
theorem zero54 (w : World) : (zeroValue 54).run Yba.prog w = .ok (.int .u16 0) w := by kernel_rfl
theorem wf_key {k : Nat} (h : k < 16) : (Lit.int .u8 (k : Int)).wf = true := WalkArith.wf_u8 (by omega)
theorem key_of {k : Nat} (h : k < 16) : keyOf Yba.prog 5 (.int .u8 (k : Int)) = some (.int .u8 (k : Int)) := keyOf_int_mk Yba.underlying5 (wf_key h)
theorem key_ne {j k : Nat} (h : j ≠ k) : (Lit.int .u8 (j : Int)) ≠ .int .u8 (k : Int) := by
  intro e
  injection e with _ e2
  omega
theorem key_lit (k : Nat) : WideAt.IsKeyLit (Lit.int .u8 (k : Int)) := trivial

/-- Block b of w is a map that holds just what f says of the keys 0 .. 15. -/
def Om (w : World) (b : Nat) (f : KM) : Prop :=
  ∃ D : DataW Unit, w.ownsMap Yba.prog 5 (plainElem Yba.prog 54) b 16 D ∧ Maps.size D = cnt f 16 ∧
    ∀ k : Nat, k < 16 → Maps.has D (.int .u8 (k : Int)) = (f k).isSome ∧ D.atKey (.int .u8 (k : Int)) (.lit (.int .u16 0)) = .lit (.int .u16 ((f k).getD 0))

theorem owns_tight {w : World} {b n : Nat} {D : DataW Unit} (h : w.ownsMap Yba.prog 5 (plainElem Yba.prog 54) b n D) (hs : Maps.size D ≤ 16) : w.ownsMap Yba.prog 5 (plainElem Yba.prog 54) b 16 D := by
  obtain ⟨es, clock, hb, F, hn, rfl⟩ := h
  refine ⟨es, clock, hb, F, ?_, rfl⟩
  simpa [Maps.size, length_sorted] using hs

theorem Om.lt {w : World} {b : Nat} {f : KM} (h : Om w b f) : b < w.heap.size := by
  obtain ⟨D, ho, _⟩ := h
  exact ho.lt

theorem Om.same {w w' : World} {b : Nat} {f : KM} (h : Om w b f) (hb : w'.heap[b]? = w.heap[b]?) : Om w' b f := by
  obtain ⟨D, ⟨es, clock, hb0, r⟩, h2⟩ := h
  exact ⟨D, ⟨es, clock, hb.trans hb0, r⟩, h2⟩

theorem Om.congr {w : World} {b : Nat} {f g : KM} (h : Om w b f) (he : ∀ k, k < 16 → f k = g k) : Om w b g := by
  obtain ⟨D, ho, hs, hk⟩ := h
  refine ⟨D, ho, hs.trans (cnt_congr 16 fun j hj => by rw [he j hj]), fun k hk16 => ?_⟩
  rw [← he k hk16]
  exact hk k hk16

theorem Om.made (w : World) : Om (w.alloc (.map #[] 0)) w.heap.size (fun _ => none) :=
  ⟨.map [], (World.ownsMap_made w Yba.prog 5 _).mono (Nat.zero_le _), rfl, fun _ _ => ⟨rfl, rfl⟩⟩

theorem Om.look {w : World} {b : Nat} {f : KM} (h : Om w b f) {k : Nat} (hk : k < 16) :
    Sem.run Yba.prog (Instr.lookup 57 (.map (some b)) (.int .u8 (k : Int)) true) w = .ok (.tuple #[.int .u16 ((f k).getD 0), .bool (f k).isSome]) w := by
  obtain ⟨D, ho, _, hk'⟩ := h
  obtain ⟨v, ps, hrun, hv⟩ := ho.look_ok law5 Yba.underlying57 (zero54 w) (plainElem_int Yba.underlying54 (by decide)) (key_of hk)
  obtain ⟨c, rfl, hc, _⟩ := plainElem_int_inv Yba.underlying54 hv
  have e := congrArg Prod.fst hc
  simp only [(hk' k hk).2] at e
  injection e with e
  injection e with _ e
  rw [hrun, (hk' k hk).1, e]

theorem Om.look1 {w : World} {b : Nat} {f : KM} (h : Om w b f) {k : Nat} (hk : k < 16) :
    Sem.run Yba.prog (Instr.lookup 57 (.map (some b)) (.int .u8 (k : Int)) false) w = .ok (.int .u16 ((f k).getD 0)) w := by
  obtain ⟨D, ho, _, hk'⟩ := h
  obtain ⟨v, ps, hrun, hv⟩ := ho.lookup law5 Yba.underlying57 (zero54 w) (plainElem_int Yba.underlying54 (by decide)) (key_of hk)
  obtain ⟨c, rfl, hc, _⟩ := plainElem_int_inv Yba.underlying54 hv
  have e := congrArg Prod.fst hc
  simp only [(hk' k hk).2] at e
  injection e with e
  injection e with _ e
  rw [hrun, e]

theorem Om.wf {w : World} {b : Nat} {f : KM} (h : Om w b f) {k : Nat} (hk : k < 16) : (Lit.int .u16 ((f k).getD 0)).wf = true := by
  obtain ⟨D, ho, _, hk'⟩ := h
  obtain ⟨v, ps, hrun, hv⟩ := ho.lookup law5 Yba.underlying57 (zero54 w) (plainElem_int Yba.underlying54 (by decide)) (key_of hk)
  obtain ⟨c, rfl, hc, hw⟩ := plainElem_int_inv Yba.underlying54 hv
  have e := congrArg Prod.fst hc
  simp only [(hk' k hk).2] at e
  injection e with e
  injection e with _ e
  rw [e]
  exact hw

theorem Om.len {w : World} {b : Nat} {f : KM} (h : Om w b f) (ty : TypeId) :
    Sem.run Yba.prog (Builtin.len_ #[57] ty #[.map (some b)]) w = .ok (.int .i64 (cnt f 16)) w := by
  obtain ⟨D, ho, hs, _⟩ := h
  rw [← hs]
  exact ho.len Yba.underlying57 ty

theorem Om.put {w : World} {b : Nat} {f : KM} (h : Om w b f) {k : Nat} (hk : k < 16) {v : Int} (hv : (Lit.int .u16 v).wf = true) :
    ∃ w', Sem.run Yba.prog (Instr.mapUpdate 57 (.map (some b)) (.int .u8 (k : Int)) (.int .u16 v)) w = .ok () w' ∧ Om w' b (kput f k v) ∧ w.mapTurned w' b := by
  obtain ⟨D, ho, hs, hk'⟩ := h
  obtain ⟨w', hrun, ho', ht⟩ := ho.store law5 Yba.underlying57 (by decide) (key_of hk) (plainElem_int Yba.underlying54 hv)
  have hsz : Maps.size (D.put (.int .u8 (k : Int)) (.lit (.int .u16 v))) = cnt (kput f k v) 16 := by
    rw [size_put (ho.tidy law5), (hk' k hk).1, hs, cnt_put f k v 16 hk]
  refine ⟨w', hrun, ⟨_, owns_tight ho' (by rw [hsz]; exact cnt_le _ _), hsz, fun j hj => ?_⟩, ht⟩
  by_cases e : j = k
  · subst e
    rw [kput_same]
    exact ⟨has_put_same ho.isMap (key_lit j) _, atKey_put_same ho.isMap (key_lit j) _ _⟩
  · rw [kput_other v e, has_put_other (key_ne e), atKey_put_other (key_ne e)]
    exact hk' j hj

theorem Om.del {w : World} {b : Nat} {f : KM} (h : Om w b f) {k : Nat} (hk : k < 16) (ty : TypeId) :
    ∃ w', Sem.run Yba.prog (Builtin.delete_ #[57, 5] ty #[.map (some b), .int .u8 (k : Int)]) w = .ok (.tuple #[]) w' ∧ Om w' b (kdel f k) ∧ w.mapTurned w' b := by
  obtain ⟨D, ho, hs, hk'⟩ := h
  obtain ⟨w', hrun, ho', ht⟩ := ho.drop law5 Yba.underlying57 (key_of hk) ty
  have hsz : Maps.size (D.del (.int .u8 (k : Int))) = cnt (kdel f k) 16 := by
    have e1 := size_del (k := .int .u8 (k : Int)) (ho.tidy law5)
    have e2 := cnt_del f k 16 hk
    rw [(hk' k hk).1] at e1
    omega
  refine ⟨w', hrun, ⟨_, ho', hsz, fun j hj => ?_⟩, ht⟩
  by_cases e : j = k
  · subst e
    rw [kdel_same]
    exact ⟨has_del_same, atKey_del_same _⟩
  · rw [kdel_other e, has_del_other (key_ne e), atKey_del_other (key_ne e)]
    exact hk' j hj

/-- A map in a variable: nil, and nothing is there; or a block. -/
def MapAt (w : World) (m : Option Nat) (f : KM) : Prop := (m = none ∧ ∀ k, k < 16 → f k = none) ∨ ∃ b, m = some b ∧ Om w b f

theorem MapAt.look {w : World} {m : Option Nat} {f : KM} (h : MapAt w m f) {k : Nat} (hk : k < 16) :
    Sem.run Yba.prog (Instr.lookup 57 (.map m) (.int .u8 (k : Int)) true) w = .ok (.tuple #[.int .u16 ((f k).getD 0), .bool (f k).isSome]) w := by
  rcases h with ⟨rfl, h⟩ | ⟨b, rfl, h⟩
  · rw [h k hk]
    exact Maps.look_nil true law5 Yba.underlying57 (zero54 w) (key_of hk)
  · exact h.look hk

theorem cnt_none {f : KM} : ∀ n, (∀ k, k < n → f k = none) → cnt f n = 0
  | 0, _ => rfl
  | n + 1, h => by simp only [cnt]; rw [cnt_none n (fun k hk => h k (by omega)), h n (by omega)]; rfl

theorem MapAt.len {w : World} {m : Option Nat} {f : KM} (h : MapAt w m f) (ty : TypeId) :
    Sem.run Yba.prog (Builtin.len_ #[57] ty #[.map m]) w = .ok (.int .i64 (cnt f 16)) w := by
  rcases h with ⟨rfl, h⟩ | ⟨b, rfl, h⟩
  · rw [cnt_none 16 h]
    exact Maps.len_nil Yba.underlying57 ty
  · exact h.len ty

theorem MapAt.same {w w' : World} {m : Option Nat} {f : KM} (h : MapAt w m f) (hb : ∀ b, m = some b → w'.heap[b]? = w.heap[b]?) : MapAt w' m f := by
  rcases h with h | ⟨b, rfl, h⟩
  · exact .inl h
  · exact .inr ⟨b, rfl, h.same (hb b rfl)⟩

theorem MapAt.congr {w : World} {m : Option Nat} {f g : KM} (h : MapAt w m f) (he : ∀ k, k < 16 → f k = g k) : MapAt w m g := by
  rcases h with ⟨rfl, h⟩ | ⟨b, rfl, h⟩
  · exact .inl ⟨rfl, fun k hk => (he k hk).symm.trans (h k hk)⟩
  · exact .inr ⟨b, rfl, h.congr he⟩

/-! ### what a step leaves alone -/
/-- w' is w but for the blocks of S and for new ones. -/
structure KeptBut (S : Nat → Prop) (w w' : World) : Prop where
  os : w'.os = w.os
  tape : w'.tape = w.tape
  output : w'.output = w.output
  size : w.heap.size ≤ w'.heap.size
  block : ∀ k, k < w.heap.size → ¬ S k → w'.heap[k]? = w.heap[k]?

theorem KeptBut.refl (S : Nat → Prop) (w : World) : KeptBut S w w := ⟨rfl, rfl, rfl, Nat.le_refl _, fun _ _ _ => rfl⟩
theorem KeptBut.trans {S : Nat → Prop} {a b c : World} (h : KeptBut S a b) (k : KeptBut S b c) : KeptBut S a c :=
  ⟨k.os.trans h.os, k.tape.trans h.tape, k.output.trans h.output, Nat.le_trans h.size k.size, fun i hi hs => (k.block i (by have := h.size; omega) hs).trans (h.block i hi hs)⟩
theorem KeptBut.mono {S T : Nat → Prop} {a b : World} (h : KeptBut S a b) (hst : ∀ k, k < a.heap.size → S k → T k) : KeptBut T a b :=
  ⟨h.os, h.tape, h.output, h.size, fun i hi hs => h.block i hi (fun q => hs (hst i hi q))⟩
theorem KeptBut.alloc (S : Nat → Prop) (w : World) (o : Obj) : KeptBut S w (w.alloc o) :=
  ⟨rfl, rfl, rfl, by simp, fun k hk _ => Below.heap_alloc _ _ _ hk⟩
theorem KeptBut.setCell {S : Nat → Prop} (w : World) (a : Addr) (u : Value) (h : S a.block) : KeptBut S w (w.setCell a u) :=
  ⟨rfl, rfl, rfl, by simp, fun k _ hs => Below.heap_setCell _ _ _ _ (fun e => hs (by rw [e]; exact h))⟩
theorem KeptBut.turned {S : Nat → Prop} {w w' : World} {b : Nat} (h : w.mapTurned w' b) (hs : S b) : KeptBut S w w' := by
  have g := h.grown
  exact ⟨g.os, g.tape, g.output, g.size, fun k hk hn => g.block k hk (fun e => hn (by injection e with e; rw [e]; exact hs))⟩
theorem KeptBut.below {S : Nat → Prop} {B : Nat} {w0 w w' : World} (h : Below B w0 w) (k : KeptBut S w w') (hB : B ≤ w.heap.size) (hs : ∀ j, j < B → ¬ S j) : Below B w0 w' :=
  h.trans ⟨k.os, k.tape, k.output, k.size, fun j hj => k.block j (by omega) (hs j hj)⟩
end Go.Proofs.Ybulkctyw
