/-
  No cell of these rows narrows 'for every input' (looked for: loops, veiled, ifaces, maps, wideKeys, modest, calm, conditions, laid).
  DERIVED. THE GIVEN ROWS OF THIS SEAT. 2 by the template 'for every input the law returns true; each argument reads behind the call as it read before'; 0 by the template 'total and deterministic' (their statements: YbulkcnwoTotals.lean).
  GIVEN WITH THE SEED: the statements are not yours to turn. If you find one false, say at which input.
  Laid BY PROGRAM, IN A SANDBOX (cutbox-rows.mjs): the forced cells as the released guide's own fill.sh prints them over the translation bbc7d2c36dabfd8d… (all of the seat's roots in one cut). By AI agents, Wed Nov 11 2026. No macro, syntax, notation, axiom, sorry.
-/
import Derived.Test.YbulkcnwoChecked
import GoSem.Claim
import GoSem.ClaimJoined
import GoSem.ClaimMapViews
import Derived.JoinedTies
import Derived.KernelRfl
namespace Go.Proofs.Ybulkcnwo
/- THE CELL 'sum', in the pinned program and in every row, IS THE sha256 OF THE DUMP (.gsa) THAT YbulkcnwoProg.lean LOADS. Nothing in Lean hashes anything: it is a label: what it is worth is what the hold of that sum in a sandbox is worth. -/
noncomputable def Yba.pinned : Pinned := { name := "ybulkcnwo", sum := "bbc7d2c36dabfd8dc61fc985a040f5d3fc8373141af32af907f55382006d73b6", checked := Yba.checked }
namespace Rows
def none {H : Type} : Left H := { results := [], args := [] }

/-- 'engine.LawS4486BSent': WHATEVER THE INPUT: true; the input reads as it did. -/
def lawS4486BSentSpec : ChangeSpec := { name := "lawS4486BSent", fn := fun _ => fun
  | [d1, d2, d3] => { results := [.lit (.bool true)], args := [d1, d2, d3] }
  | _ => none }
def lawS4486BSentRow : OpenClaim := { program := "ybulkcnwo", sum := "bbc7d2c36dabfd8dc61fc985a040f5d3fc8373141af32af907f55382006d73b6", func := "example.com/wanttree/wanttree/engine.LawS4486BSent", spec := "lawS4486BSent", inPlace := ["internal/bytealg.abigen_runtime_cmpstring", "slices.overlaps[example.com/wanttree/wanttree/engine.peerValue[int]]"], unfollowed := true, recurses := true, apart := false }
def LawS4486BSentSaid : Prop := lawS4486BSentRow.holds Yba.pinned (OpenSpec.ofChange lawS4486BSentSpec)

/-- ITS FALSE NEIGHBOUR: 'it returns false'. Refute it at one input. -/
def lawS4486BSentWrong : ChangeSpec := { name := "lawS4486BSent", fn := fun _ => fun
  | [d1, d2, d3] => { results := [.lit (.bool false)], args := [d1, d2, d3] }
  | _ => none }
def LawS4486BSentWrongFalsely : Prop := lawS4486BSentRow.holds Yba.pinned (OpenSpec.ofChange lawS4486BSentWrong)

/-- 'engine.LawS4486CExact': WHATEVER THE INPUT: true; the input reads as it did. -/
def lawS4486CExactSpec : ChangeSpec := { name := "lawS4486CExact", fn := fun _ => fun
  | [d1, d2, d3, d4, d5, d6] => { results := [.lit (.bool true)], args := [d1, d2, d3, d4, d5, d6] }
  | _ => none }
def lawS4486CExactRow : OpenClaim := { program := "ybulkcnwo", sum := "bbc7d2c36dabfd8dc61fc985a040f5d3fc8373141af32af907f55382006d73b6", func := "example.com/wanttree/wanttree/engine.LawS4486CExact", spec := "lawS4486CExact", apart := false }
def LawS4486CExactSaid : Prop := lawS4486CExactRow.holds Yba.pinned (OpenSpec.ofChange lawS4486CExactSpec)

/-- ITS FALSE NEIGHBOUR: 'it returns false'. Refute it at one input. -/
def lawS4486CExactWrong : ChangeSpec := { name := "lawS4486CExact", fn := fun _ => fun
  | [d1, d2, d3, d4, d5, d6] => { results := [.lit (.bool false)], args := [d1, d2, d3, d4, d5, d6] }
  | _ => none }
def LawS4486CExactWrongFalsely : Prop := lawS4486CExactRow.holds Yba.pinned (OpenSpec.ofChange lawS4486CExactWrong)

end Rows
end Go.Proofs.Ybulkcnwo
