/-
  No cell of these rows narrows 'for every input' (looked for: loops, veiled, ifaces, maps, wideKeys, modest, calm, conditions, laid).
  DERIVED. THE GIVEN ROWS OF THIS SEAT. 2 by the template 'for every input the law returns true; each argument reads behind the call as it read before'; 0 by the template 'total and deterministic' (their statements: YbulkcnuyTotals.lean).
  GIVEN WITH THE SEED: the statements are not yours to turn. If you find one false, say at which input.
  Laid BY PROGRAM, IN A SANDBOX (cutbox-rows.mjs): the forced cells as the released guide's own fill.sh prints them over the translation 232896276697e9e3… (all of the seat's roots in one cut). By AI agents, Wed Nov 11 2026. No macro, syntax, notation, axiom, sorry.
-/
import Derived.Test.YbulkcnuyChecked
import GoSem.Claim
import GoSem.ClaimJoined
import GoSem.ClaimMapViews
import Derived.JoinedTies
import Derived.KernelRfl
namespace Go.Proofs.Ybulkcnuy
/- THE CELL 'sum', in the pinned program and in every row, IS THE sha256 OF THE DUMP (.gsa) THAT YbulkcnuyProg.lean LOADS. Nothing in Lean hashes anything: it is a label: what it is worth is what the hold of that sum in a sandbox is worth. -/
noncomputable def Yba.pinned : Pinned := { name := "ybulkcnuy", sum := "232896276697e9e3b04096fba59f9481910395310b8fe2beea14bcd5c5b5c3d5", checked := Yba.checked }
namespace Rows
def none {H : Type} : Left H := { results := [], args := [] }

/-- 'predicate.LawS4483ATree': WHATEVER THE INPUT: true; the input reads as it did. -/
def lawS4483ATreeSpec : ChangeSpec := { name := "lawS4483ATree", fn := fun _ => fun
  | [d1, d2] => { results := [.lit (.bool true)], args := [d1, d2] }
  | _ => none }
def lawS4483ATreeRow : OpenClaim := { program := "ybulkcnuy", sum := "232896276697e9e3b04096fba59f9481910395310b8fe2beea14bcd5c5b5c3d5", func := "example.com/beforehand/beforehand/predicate.LawS4483ATree", spec := "lawS4483ATree", inPlace := ["math/bits.Sub64", "math/bits.Add64"], unfollowed := true, recurses := true, apart := false }
def LawS4483ATreeSaid : Prop := lawS4483ATreeRow.holds Yba.pinned (OpenSpec.ofChange lawS4483ATreeSpec)

/-- ITS FALSE NEIGHBOUR: 'it returns false'. Refute it at one input. -/
def lawS4483ATreeWrong : ChangeSpec := { name := "lawS4483ATree", fn := fun _ => fun
  | [d1, d2] => { results := [.lit (.bool false)], args := [d1, d2] }
  | _ => none }
def LawS4483ATreeWrongFalsely : Prop := lawS4483ATreeRow.holds Yba.pinned (OpenSpec.ofChange lawS4483ATreeWrong)

/-- 'predicate.LawS4483AWide': WHATEVER THE INPUT: true; the input reads as it did. -/
def lawS4483AWideSpec : ChangeSpec := { name := "lawS4483AWide", fn := fun _ => fun
  | [d1, d2, d3, d4, d5, d6] => { results := [.lit (.bool true)], args := [d1, d2, d3, d4, d5, d6] }
  | _ => none }
def lawS4483AWideRow : OpenClaim := { program := "ybulkcnuy", sum := "232896276697e9e3b04096fba59f9481910395310b8fe2beea14bcd5c5b5c3d5", func := "example.com/beforehand/beforehand/predicate.LawS4483AWide", spec := "lawS4483AWide", inPlace := ["math/bits.Sub64", "math/bits.Add64"], unfollowed := true, recurses := true, apart := false }
def LawS4483AWideSaid : Prop := lawS4483AWideRow.holds Yba.pinned (OpenSpec.ofChange lawS4483AWideSpec)

/-- ITS FALSE NEIGHBOUR: 'it returns false'. Refute it at one input. -/
def lawS4483AWideWrong : ChangeSpec := { name := "lawS4483AWide", fn := fun _ => fun
  | [d1, d2, d3, d4, d5, d6] => { results := [.lit (.bool false)], args := [d1, d2, d3, d4, d5, d6] }
  | _ => none }
def LawS4483AWideWrongFalsely : Prop := lawS4483AWideRow.holds Yba.pinned (OpenSpec.ofChange lawS4483AWideWrong)

end Rows
end Go.Proofs.Ybulkcnuy
