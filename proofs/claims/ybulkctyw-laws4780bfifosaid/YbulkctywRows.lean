/-
  No cell of these rows narrows 'for every input' (looked for: loops, veiled, ifaces, maps, wideKeys, modest, calm, conditions, laid).
  DERIVED. THE GIVEN ROWS OF THIS SEAT. 5 by the template 'for every input the law returns true; each argument reads behind the call as it read before'; 0 by the template 'total and deterministic' (their statements: YbulkctywTotals.lean).
  GIVEN WITH THE SEED: the statements are not yours to turn. If you find one false, say at which input.
  Laid BY PROGRAM, IN A SANDBOX (cutbox-rows.mjs): the forced cells as the released guide's own fill.sh prints them over the translation 06add6149a73722e… (all of the seat's roots in one cut). By AI agents, Wed Nov 11 2026. No macro, syntax, notation, axiom, sorry.
-/
import Derived.Test.YbulkctywChecked
import GoSem.Claim
import GoSem.ClaimJoined
import GoSem.ClaimMapViews
import Derived.JoinedTies
import Derived.KernelRfl
namespace Go.Proofs.Ybulkctyw
/- THE CELL 'sum', in the pinned program and in every row, IS THE sha256 OF THE DUMP (.gsa) THAT YbulkctywProg.lean LOADS. Nothing in Lean hashes anything: it is a label: what it is worth is what the hold of that sum in a sandbox is worth. -/
noncomputable def Yba.pinned : Pinned := { name := "ybulkctyw", sum := "06add6149a73722ef359b413aa1b9a0cc76b29a6711dec4e32b6e8b03c3636b2", checked := Yba.checked }
namespace Rows
def none {H : Type} : Left H := { results := [], args := [] }

/-- 'ratelimit.LawS4780AFields': WHATEVER THE INPUT: true; the input reads as it did. -/
def lawS4780AFieldsSpec : ChangeSpec := { name := "lawS4780AFields", fn := fun _ => fun
  | [d1, d2, d3] => { results := [.lit (.bool true)], args := [d1, d2, d3] }
  | _ => none }
def lawS4780AFieldsRow : OpenClaim := { program := "ybulkctyw", sum := "06add6149a73722ef359b413aa1b9a0cc76b29a6711dec4e32b6e8b03c3636b2", func := "example.com/abiding-backlog/abiding-backlog/ratelimit.LawS4780AFields", spec := "lawS4780AFields", apart := false }
def LawS4780AFieldsSaid : Prop := lawS4780AFieldsRow.holds Yba.pinned (OpenSpec.ofChange lawS4780AFieldsSpec)

/-- ITS FALSE NEIGHBOUR: 'it returns false'. Refute it at one input. -/
def lawS4780AFieldsWrong : ChangeSpec := { name := "lawS4780AFields", fn := fun _ => fun
  | [d1, d2, d3] => { results := [.lit (.bool false)], args := [d1, d2, d3] }
  | _ => none }
def LawS4780AFieldsWrongFalsely : Prop := lawS4780AFieldsRow.holds Yba.pinned (OpenSpec.ofChange lawS4780AFieldsWrong)

/-- 'ratelimit.LawS4780AFresh': WHATEVER THE INPUT: true; the input reads as it did. -/
def lawS4780AFreshSpec : ChangeSpec := { name := "lawS4780AFresh", fn := fun _ => fun
  | [d1, d2, d3] => { results := [.lit (.bool true)], args := [d1, d2, d3] }
  | _ => none }
def lawS4780AFreshRow : OpenClaim := { program := "ybulkctyw", sum := "06add6149a73722ef359b413aa1b9a0cc76b29a6711dec4e32b6e8b03c3636b2", func := "example.com/abiding-backlog/abiding-backlog/ratelimit.LawS4780AFresh", spec := "lawS4780AFresh", apart := false }
def LawS4780AFreshSaid : Prop := lawS4780AFreshRow.holds Yba.pinned (OpenSpec.ofChange lawS4780AFreshSpec)

/-- ITS FALSE NEIGHBOUR: 'it returns false'. Refute it at one input. -/
def lawS4780AFreshWrong : ChangeSpec := { name := "lawS4780AFresh", fn := fun _ => fun
  | [d1, d2, d3] => { results := [.lit (.bool false)], args := [d1, d2, d3] }
  | _ => none }
def LawS4780AFreshWrongFalsely : Prop := lawS4780AFreshRow.holds Yba.pinned (OpenSpec.ofChange lawS4780AFreshWrong)

/-- 'ring.LawS4780BFifo': WHATEVER THE INPUT: true; the input reads as it did. -/
def lawS4780BFifoSpec : ChangeSpec := { name := "lawS4780BFifo", fn := fun _ => fun
  | [d] => { results := [.lit (.bool true)], args := [d] }
  | _ => none }
def lawS4780BFifoRow : OpenClaim := { program := "ybulkctyw", sum := "06add6149a73722ef359b413aa1b9a0cc76b29a6711dec4e32b6e8b03c3636b2", func := "example.com/abiding-backlog/abiding-backlog/internal/ring.LawS4780BFifo", spec := "lawS4780BFifo", apart := false }
def LawS4780BFifoSaid : Prop := lawS4780BFifoRow.holds Yba.pinned (OpenSpec.ofChange lawS4780BFifoSpec)

/-- ITS FALSE NEIGHBOUR: 'it returns false'. Refute it at one input. -/
def lawS4780BFifoWrong : ChangeSpec := { name := "lawS4780BFifo", fn := fun _ => fun
  | [d] => { results := [.lit (.bool false)], args := [d] }
  | _ => none }
def LawS4780BFifoWrongFalsely : Prop := lawS4780BFifoRow.holds Yba.pinned (OpenSpec.ofChange lawS4780BFifoWrong)

/-- 'ring.LawS4780BCap': WHATEVER THE INPUT: true; the input reads as it did. -/
def lawS4780BCapSpec : ChangeSpec := { name := "lawS4780BCap", fn := fun _ => fun
  | [d] => { results := [.lit (.bool true)], args := [d] }
  | _ => none }
def lawS4780BCapRow : OpenClaim := { program := "ybulkctyw", sum := "06add6149a73722ef359b413aa1b9a0cc76b29a6711dec4e32b6e8b03c3636b2", func := "example.com/abiding-backlog/abiding-backlog/internal/ring.LawS4780BCap", spec := "lawS4780BCap", apart := false }
def LawS4780BCapSaid : Prop := lawS4780BCapRow.holds Yba.pinned (OpenSpec.ofChange lawS4780BCapSpec)

/-- ITS FALSE NEIGHBOUR: 'it returns false'. Refute it at one input. -/
def lawS4780BCapWrong : ChangeSpec := { name := "lawS4780BCap", fn := fun _ => fun
  | [d] => { results := [.lit (.bool false)], args := [d] }
  | _ => none }
def LawS4780BCapWrongFalsely : Prop := lawS4780BCapRow.holds Yba.pinned (OpenSpec.ofChange lawS4780BCapWrong)

/-- 'keymap.LawS4780COr': WHATEVER THE INPUT: true; the input reads as it did. -/
def lawS4780COrSpec : ChangeSpec := { name := "lawS4780COr", fn := fun _ => fun
  | [d1, d2, d3, d4, d5, d6, d7, d8, d9] => { results := [.lit (.bool true)], args := [d1, d2, d3, d4, d5, d6, d7, d8, d9] }
  | _ => none }
def lawS4780COrRow : OpenClaim := { program := "ybulkctyw", sum := "06add6149a73722ef359b413aa1b9a0cc76b29a6711dec4e32b6e8b03c3636b2", func := "example.com/abiding-backlog/abiding-backlog/internal/keymap.LawS4780COr", spec := "lawS4780COr", apart := false }
def LawS4780COrSaid : Prop := lawS4780COrRow.holds Yba.pinned (OpenSpec.ofChange lawS4780COrSpec)

/-- ITS FALSE NEIGHBOUR: 'it returns false'. Refute it at one input. -/
def lawS4780COrWrong : ChangeSpec := { name := "lawS4780COr", fn := fun _ => fun
  | [d1, d2, d3, d4, d5, d6, d7, d8, d9] => { results := [.lit (.bool false)], args := [d1, d2, d3, d4, d5, d6, d7, d8, d9] }
  | _ => none }
def LawS4780COrWrongFalsely : Prop := lawS4780COrRow.holds Yba.pinned (OpenSpec.ofChange lawS4780COrWrong)

end Rows
end Go.Proofs.Ybulkctyw
