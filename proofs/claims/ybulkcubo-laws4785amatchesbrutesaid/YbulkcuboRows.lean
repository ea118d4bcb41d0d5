/-
  No cell of these rows narrows 'for every input' (looked for: loops, veiled, ifaces, maps, wideKeys, modest, calm, conditions, laid).
  DERIVED. THE GIVEN ROWS OF THIS SEAT. 3 by the template 'for every input the law returns true; each argument reads behind the call as it read before'; 0 by the template 'total and deterministic' (their statements: YbulkcuboTotals.lean).
  GIVEN WITH THE SEED: the statements are not yours to turn. If you find one false, say at which input.
  Laid BY PROGRAM, IN A SANDBOX (cutbox-rows.mjs): the forced cells as the released guide's own fill.sh prints them over the translation 99af136f31877f20… (all of the seat's roots in one cut). By AI agents, Wed Nov 11 2026. No macro, syntax, notation, axiom, sorry.
-/
import Derived.Test.YbulkcuboChecked
import GoSem.Claim
import GoSem.ClaimJoined
import GoSem.ClaimMapViews
import Derived.JoinedTies
import Derived.KernelRfl
namespace Go.Proofs.Ybulkcubo
/- THE CELL 'sum', in the pinned program and in every row, IS THE sha256 OF THE DUMP (.gsa) THAT YbulkcuboProg.lean LOADS. Nothing in Lean hashes anything: it is a label: what it is worth is what the hold of that sum in a sandbox is worth. -/
noncomputable def Yba.pinned : Pinned := { name := "ybulkcubo", sum := "99af136f31877f2082fc74e473e5d21b93fe581afc95189bb1385d0dbf2edf17", checked := Yba.checked }
namespace Rows
def none {H : Type} : Left H := { results := [], args := [] }

/-- 'vclog.LawS4785AMatchesBrute': WHATEVER THE INPUT: true; the input reads as it did. -/
def lawS4785AMatchesBruteSpec : ChangeSpec := { name := "lawS4785AMatchesBrute", fn := fun _ => fun
  | [d1, d2] => { results := [.lit (.bool true)], args := [d1, d2] }
  | _ => none }
def lawS4785AMatchesBruteRow : OpenClaim := { program := "ybulkcubo", sum := "99af136f31877f2082fc74e473e5d21b93fe581afc95189bb1385d0dbf2edf17", func := "example.com/beforehand/beforehand/internal/vclog.LawS4785AMatchesBrute", spec := "lawS4785AMatchesBrute", unfollowed := true, recurses := true, apart := false }
def LawS4785AMatchesBruteSaid : Prop := lawS4785AMatchesBruteRow.holds Yba.pinned (OpenSpec.ofChange lawS4785AMatchesBruteSpec)

/-- ITS FALSE NEIGHBOUR: 'it returns false'. Refute it at one input. -/
def lawS4785AMatchesBruteWrong : ChangeSpec := { name := "lawS4785AMatchesBrute", fn := fun _ => fun
  | [d1, d2] => { results := [.lit (.bool false)], args := [d1, d2] }
  | _ => none }
def LawS4785AMatchesBruteWrongFalsely : Prop := lawS4785AMatchesBruteRow.holds Yba.pinned (OpenSpec.ofChange lawS4785AMatchesBruteWrong)

/-- 'vclog.LawS4785CSpec': WHATEVER THE INPUT: true; the input reads as it did. -/
def lawS4785CSpecSpec : ChangeSpec := { name := "lawS4785CSpec", fn := fun _ => fun
  | [d1, d2] => { results := [.lit (.bool true)], args := [d1, d2] }
  | _ => none }
def lawS4785CSpecRow : OpenClaim := { program := "ybulkcubo", sum := "99af136f31877f2082fc74e473e5d21b93fe581afc95189bb1385d0dbf2edf17", func := "example.com/beforehand/beforehand/internal/vclog.LawS4785CSpec", spec := "lawS4785CSpec", apart := false }
def LawS4785CSpecSaid : Prop := lawS4785CSpecRow.holds Yba.pinned (OpenSpec.ofChange lawS4785CSpecSpec)

/-- ITS FALSE NEIGHBOUR: 'it returns false'. Refute it at one input. -/
def lawS4785CSpecWrong : ChangeSpec := { name := "lawS4785CSpec", fn := fun _ => fun
  | [d1, d2] => { results := [.lit (.bool false)], args := [d1, d2] }
  | _ => none }
def LawS4785CSpecWrongFalsely : Prop := lawS4785CSpecRow.holds Yba.pinned (OpenSpec.ofChange lawS4785CSpecWrong)

/-- 'vclog.LawS4785CBeyond': WHATEVER THE INPUT: true; the input reads as it did. -/
def lawS4785CBeyondSpec : ChangeSpec := { name := "lawS4785CBeyond", fn := fun _ => fun
  | [d1, d2] => { results := [.lit (.bool true)], args := [d1, d2] }
  | _ => none }
def lawS4785CBeyondRow : OpenClaim := { program := "ybulkcubo", sum := "99af136f31877f2082fc74e473e5d21b93fe581afc95189bb1385d0dbf2edf17", func := "example.com/beforehand/beforehand/internal/vclog.LawS4785CBeyond", spec := "lawS4785CBeyond", apart := false }
def LawS4785CBeyondSaid : Prop := lawS4785CBeyondRow.holds Yba.pinned (OpenSpec.ofChange lawS4785CBeyondSpec)

/-- ITS FALSE NEIGHBOUR: 'it returns false'. Refute it at one input. -/
def lawS4785CBeyondWrong : ChangeSpec := { name := "lawS4785CBeyond", fn := fun _ => fun
  | [d1, d2] => { results := [.lit (.bool false)], args := [d1, d2] }
  | _ => none }
def LawS4785CBeyondWrongFalsely : Prop := lawS4785CBeyondRow.holds Yba.pinned (OpenSpec.ofChange lawS4785CBeyondWrong)

end Rows
end Go.Proofs.Ybulkcubo
