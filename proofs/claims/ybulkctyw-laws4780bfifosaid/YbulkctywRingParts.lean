/-
  Plain parts for internal/ring.Buffer[int]: the ring in memory as a list, the mask, what a copy lays.
-/
import Derived.Test.YbulkctywRows
import Derived.WalkKit
import Derived.Laws.CopyOwn
import Derived.Laws.BitsLemmas
import Derived.Maps.OwnSet
namespace Go.Proofs.Ybulkctyw
open Go.RowKit

/-- 'x & (c - 1)' at a power of two. -/
theorem mask_is {x c m : Nat} (hc : c = 2 ^ m) (hm : m ≤ 40) (hx : x < 2 ^ 62) : bits BinOp.and IntKind.i64 (x : Int) ((c : Int) - 1) = ((x % c : Nat) : Int) := by
  subst hc
  have h := bits_mask .i64 62 (by decide) (fun n h0 h1 => by rw [IntKind.wrap_i64]; have : (2:Int)^62 = 4611686018427387904 := by decide
                                                             omega) m (by omega) (x : Int) (by omega) (by exact_mod_cast hx)
  have e : ((2 ^ m : Nat) : Int) = (2 : Int) ^ m := by simp
  rw [e, h, ← e]
  simp

/-! ### lists -/
theorem splice_at {α : Type} (L cs : List α) (off i : Nat) (h : off + cs.length ≤ L.length) :
    (splice L off cs)[i]? = if off ≤ i ∧ i < off + cs.length then cs[i - off]? else L[i]? := by
  unfold splice
  by_cases h1 : i < off
  · rw [if_neg (by omega), List.getElem?_append_left (by simp; omega), List.getElem?_take]
    simp [h1]
  · rw [List.getElem?_append_right (by simp; omega)]
    have e : (L.take off).length = off := by simp; omega
    rw [e]
    by_cases h2 : i < off + cs.length
    · rw [if_pos ⟨by omega, h2⟩, List.getElem?_append_left (by omega)]
    · rw [if_neg (by omega), List.getElem?_append_right (by omega), List.getElem?_drop]
      congr 1
      omega

/-- The ring: at block p the record; its slots in block o: c of them, the front at h, the values q. -/
def Rg (w : World) (p : Nat) (o : Option Nat) (c h : Nat) (q : List Int) : Prop :=
  w.heap[p]? = some (.cells #[.slice (o.map fun g => ⟨g, 0, none⟩) c c, .int .i64 (h : Int), .int .i64 (q.length : Int)] 44 (0, 0)) ∧
  ((o = none ∧ c = 0 ∧ h = 0 ∧ q = []) ∨ ∃ g, o = some g ∧ g ≠ p ∧ h < c ∧ q.length ≤ c ∧ 16 ≤ c ∧ (∃ m, c = 2 ^ m ∧ m ≤ 40) ∧
    ∃ cs : List Value, w.heap[g]? = some (.cells cs.toArray 3 (0, 0)) ∧ cs.length = c ∧ ∀ i, i < q.length → cs[(h + i) % c]? = some (.int .i64 (q.getD i 0)))
end Go.Proofs.Ybulkctyw
