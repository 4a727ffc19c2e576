/-
  No cell of these rows narrows 'for every input' (looked for: loops, veiled, ifaces, maps, wideKeys, modest, calm, conditions, laid).
  DERIVED. THE GIVEN ROWS OF THIS SEAT. 3 by the template 'for every input the law returns true; each argument reads behind the call as it read before'; 0 by the template 'total and deterministic' (their statements: YbulkcnwaTotals.lean).
  GIVEN WITH THE SEED: the statements are not yours to turn. If you find one false, say at which input.
  Laid BY PROGRAM, IN A SANDBOX (cutbox-rows.mjs): the forced cells as the released guide's own fill.sh prints them over the translation 813bb0697ca0526c… (all of the seat's roots in one cut). By AI agents, Wed Nov 11 2026. No macro, syntax, notation, axiom, sorry.
-/
import Derived.Test.YbulkcnwaChecked
import GoSem.Claim
import GoSem.ClaimJoined
import GoSem.ClaimMapViews
import Derived.JoinedTies
import Derived.KernelRfl
namespace Go.Proofs.Ybulkcnwa
/- THE CELL 'sum', in the pinned program and in every row, IS THE sha256 OF THE DUMP (.gsa) THAT YbulkcnwaProg.lean LOADS. Nothing in Lean hashes anything: it is a label: what it is worth is what the hold of that sum in a sandbox is worth. -/
noncomputable def Yba.pinned : Pinned := { name := "ybulkcnwa", sum := "813bb0697ca0526ce0fc3ae866e5efccd1eb27cc4de762e85a89fcb4ca29a322", checked := Yba.checked }
namespace Rows
def none {H : Type} : Left H := { results := [], args := [] }

/-- 'shiftwise.LawS4485AExact': WHATEVER THE INPUT: true; the input reads as it did. -/
def lawS4485AExactSpec : ChangeSpec := { name := "lawS4485AExact", fn := fun _ => fun
  | [d1, d2] => { results := [.lit (.bool true)], args := [d1, d2] }
  | _ => none }
def lawS4485AExactRow : OpenClaim := { program := "ybulkcnwa", sum := "813bb0697ca0526ce0fc3ae866e5efccd1eb27cc4de762e85a89fcb4ca29a322", func := "example.com/shiftwise/shiftwise.LawS4485AExact", spec := "lawS4485AExact", apart := false }
def LawS4485AExactSaid : Prop := lawS4485AExactRow.holds Yba.pinned (OpenSpec.ofChange lawS4485AExactSpec)

/-- ITS FALSE NEIGHBOUR: 'it returns false'. Refute it at one input. -/
def lawS4485AExactWrong : ChangeSpec := { name := "lawS4485AExact", fn := fun _ => fun
  | [d1, d2] => { results := [.lit (.bool false)], args := [d1, d2] }
  | _ => none }
def LawS4485AExactWrongFalsely : Prop := lawS4485AExactRow.holds Yba.pinned (OpenSpec.ofChange lawS4485AExactWrong)

/-- 'shiftwise.LawS4485AKeeps': WHATEVER THE INPUT: true; the input reads as it did. -/
def lawS4485AKeepsSpec : ChangeSpec := { name := "lawS4485AKeeps", fn := fun _ => fun
  | [d1, d2] => { results := [.lit (.bool true)], args := [d1, d2] }
  | _ => none }
def lawS4485AKeepsRow : OpenClaim := { program := "ybulkcnwa", sum := "813bb0697ca0526ce0fc3ae866e5efccd1eb27cc4de762e85a89fcb4ca29a322", func := "example.com/shiftwise/shiftwise.LawS4485AKeeps", spec := "lawS4485AKeeps", apart := false }
def LawS4485AKeepsSaid : Prop := lawS4485AKeepsRow.holds Yba.pinned (OpenSpec.ofChange lawS4485AKeepsSpec)

/-- ITS FALSE NEIGHBOUR: 'it returns false'. Refute it at one input. -/
def lawS4485AKeepsWrong : ChangeSpec := { name := "lawS4485AKeeps", fn := fun _ => fun
  | [d1, d2] => { results := [.lit (.bool false)], args := [d1, d2] }
  | _ => none }
def LawS4485AKeepsWrongFalsely : Prop := lawS4485AKeepsRow.holds Yba.pinned (OpenSpec.ofChange lawS4485AKeepsWrong)

/-- 'shiftwise.LawS4485CModel': WHATEVER THE INPUT: true; the input reads as it did. -/
def lawS4485CModelSpec : ChangeSpec := { name := "lawS4485CModel", fn := fun _ => fun
  | [d] => { results := [.lit (.bool true)], args := [d] }
  | _ => none }
def lawS4485CModelRow : OpenClaim := { program := "ybulkcnwa", sum := "813bb0697ca0526ce0fc3ae866e5efccd1eb27cc4de762e85a89fcb4ca29a322", func := "example.com/shiftwise/shiftwise.LawS4485CModel", spec := "lawS4485CModel", inPlace := ["slices.overlaps[example.com/shiftwise/shiftwise.zoneEntry]", "slices.overlaps[example.com/shiftwise/shiftwise.zzs4485cent]"], named := ["encoding/binary.BigEndian"], apart := false }
def LawS4485CModelSaid : Prop := lawS4485CModelRow.holds Yba.pinned (OpenSpec.ofChange lawS4485CModelSpec)

/-- ITS FALSE NEIGHBOUR: 'it returns false'. Refute it at one input. -/
def lawS4485CModelWrong : ChangeSpec := { name := "lawS4485CModel", fn := fun _ => fun
  | [d] => { results := [.lit (.bool false)], args := [d] }
  | _ => none }
def LawS4485CModelWrongFalsely : Prop := lawS4485CModelRow.holds Yba.pinned (OpenSpec.ofChange lawS4485CModelWrong)

end Rows
end Go.Proofs.Ybulkcnwa
