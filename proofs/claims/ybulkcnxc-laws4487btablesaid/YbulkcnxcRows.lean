/-
  No cell of these rows narrows 'for every input' (looked for: loops, veiled, ifaces, maps, wideKeys, modest, calm, conditions, laid).
  DERIVED. THE GIVEN ROWS OF THIS SEAT. 2 by the template 'for every input the law returns true; each argument reads behind the call as it read before'; 0 by the template 'total and deterministic' (their statements: YbulkcnxcTotals.lean).
  GIVEN WITH THE SEED: the statements are not yours to turn. If you find one false, say at which input.
  Laid BY PROGRAM, IN A SANDBOX (cutbox-rows.mjs): the forced cells as the released guide's own fill.sh prints them over the translation 2a67a99411bdc4a8… (all of the seat's roots in one cut). By AI agents, Wed Nov 11 2026. No macro, syntax, notation, axiom, sorry.
-/
import Derived.Test.YbulkcnxcChecked
import GoSem.Claim
import GoSem.ClaimJoined
import GoSem.ClaimMapViews
import Derived.JoinedTies
import Derived.KernelRfl
namespace Go.Proofs.Ybulkcnxc
/- THE CELL 'sum', in the pinned program and in every row, IS THE sha256 OF THE DUMP (.gsa) THAT YbulkcnxcProg.lean LOADS. Nothing in Lean hashes anything: it is a label: what it is worth is what the hold of that sum in a sandbox is worth. -/
noncomputable def Yba.pinned : Pinned := { name := "ybulkcnxc", sum := "2a67a99411bdc4a8288c5245aabde9b9319b292a4b8b549c654f8ae9e14b5fcd", checked := Yba.checked }
namespace Rows
def none {H : Type} : Left H := { results := [], args := [] }

/-- 'engine.LawS4487BTable': WHATEVER THE INPUT: true; the input reads as it did. -/
def lawS4487BTableSpec : ChangeSpec := { name := "lawS4487BTable", fn := fun _ => fun
  | [d1, d2, d3, d4] => { results := [.lit (.bool true)], args := [d1, d2, d3, d4] }
  | _ => none }
def lawS4487BTableRow : OpenClaim := { program := "ybulkcnxc", sum := "2a67a99411bdc4a8288c5245aabde9b9319b292a4b8b549c654f8ae9e14b5fcd", func := "example.com/longshore/longshore/engine.LawS4487BTable", spec := "lawS4487BTable", apart := false }
def LawS4487BTableSaid : Prop := lawS4487BTableRow.holds Yba.pinned (OpenSpec.ofChange lawS4487BTableSpec)

/-- ITS FALSE NEIGHBOUR: 'it returns false'. Refute it at one input. -/
def lawS4487BTableWrong : ChangeSpec := { name := "lawS4487BTable", fn := fun _ => fun
  | [d1, d2, d3, d4] => { results := [.lit (.bool false)], args := [d1, d2, d3, d4] }
  | _ => none }
def LawS4487BTableWrongFalsely : Prop := lawS4487BTableRow.holds Yba.pinned (OpenSpec.ofChange lawS4487BTableWrong)

/-- 'engine.LawS4487BRaw': WHATEVER THE INPUT: true; the input reads as it did. -/
def lawS4487BRawSpec : ChangeSpec := { name := "lawS4487BRaw", fn := fun _ => fun
  | [d] => { results := [.lit (.bool true)], args := [d] }
  | _ => none }
def lawS4487BRawRow : OpenClaim := { program := "ybulkcnxc", sum := "2a67a99411bdc4a8288c5245aabde9b9319b292a4b8b549c654f8ae9e14b5fcd", func := "example.com/longshore/longshore/engine.LawS4487BRaw", spec := "lawS4487BRaw", apart := false }
def LawS4487BRawSaid : Prop := lawS4487BRawRow.holds Yba.pinned (OpenSpec.ofChange lawS4487BRawSpec)

/-- ITS FALSE NEIGHBOUR: 'it returns false'. Refute it at one input. -/
def lawS4487BRawWrong : ChangeSpec := { name := "lawS4487BRaw", fn := fun _ => fun
  | [d] => { results := [.lit (.bool false)], args := [d] }
  | _ => none }
def LawS4487BRawWrongFalsely : Prop := lawS4487BRawRow.holds Yba.pinned (OpenSpec.ofChange lawS4487BRawWrong)

end Rows
end Go.Proofs.Ybulkcnxc
