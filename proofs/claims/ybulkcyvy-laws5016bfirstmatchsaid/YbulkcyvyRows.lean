/-
  No cell of these rows narrows 'for every input' (looked for: loops, veiled, ifaces, maps, wideKeys, modest, calm, conditions, laid).
  DERIVED. THE GIVEN ROWS OF THIS SEAT. 2 by the template 'for every input the law returns true; each argument reads behind the call as it read before'; 0 by the template 'total and deterministic' (their statements: YbulkcyvyTotals.lean).
  GIVEN WITH THE SEED: the statements are not yours to turn. If you find one false, say at which input.
  Laid BY PROGRAM, IN A SANDBOX (cutbox-rows.mjs): the forced cells as the released guide's own fill.sh prints them over the translation ba2cfb01434e8dad… (all of the seat's roots in one cut). By AI agents, Wed Nov 11 2026. No macro, syntax, notation, axiom, sorry.
-/
import Derived.Test.YbulkcyvyChecked
import GoSem.Claim
import GoSem.ClaimJoined
import GoSem.ClaimMapViews
import Derived.JoinedTies
import Derived.KernelRfl
namespace Go.Proofs.Ybulkcyvy
/- THE CELL 'sum', in the pinned program and in every row, IS THE sha256 OF THE DUMP (.gsa) THAT YbulkcyvyProg.lean LOADS. Nothing in Lean hashes anything: it is a label: what it is worth is what the hold of that sum in a sandbox is worth. -/
noncomputable def Yba.pinned : Pinned := { name := "ybulkcyvy", sum := "ba2cfb01434e8dad10cac609631c1e80b00951b705dba7a26fb4b96c28d21695", checked := Yba.checked }
namespace Rows
def none {H : Type} : Left H := { results := [], args := [] }

/-- 'jsondoc.LawS5016BFirstMatch': WHATEVER THE INPUT: true; the input reads as it did. -/
def lawS5016BFirstMatchSpec : ChangeSpec := { name := "lawS5016BFirstMatch", fn := fun _ => fun
  | [d1, d2, d3] => { results := [.lit (.bool true)], args := [d1, d2, d3] }
  | _ => none }
def lawS5016BFirstMatchRow : OpenClaim := { program := "ybulkcyvy", sum := "ba2cfb01434e8dad10cac609631c1e80b00951b705dba7a26fb4b96c28d21695", func := "example.com/bundleforge/bundleforge/jsondoc.LawS5016BFirstMatch", spec := "lawS5016BFirstMatch", unfollowed := true, recurses := true, apart := false }
def LawS5016BFirstMatchSaid : Prop := lawS5016BFirstMatchRow.holds Yba.pinned (OpenSpec.ofChange lawS5016BFirstMatchSpec)

/-- ITS FALSE NEIGHBOUR: 'it returns false'. Refute it at one input. -/
def lawS5016BFirstMatchWrong : ChangeSpec := { name := "lawS5016BFirstMatch", fn := fun _ => fun
  | [d1, d2, d3] => { results := [.lit (.bool false)], args := [d1, d2, d3] }
  | _ => none }
def LawS5016BFirstMatchWrongFalsely : Prop := lawS5016BFirstMatchRow.holds Yba.pinned (OpenSpec.ofChange lawS5016BFirstMatchWrong)

/-- 'jsondoc.LawS5016BNotObject': WHATEVER THE INPUT: true; the input reads as it did. -/
def lawS5016BNotObjectSpec : ChangeSpec := { name := "lawS5016BNotObject", fn := fun _ => fun
  | [d1, d2, d3] => { results := [.lit (.bool true)], args := [d1, d2, d3] }
  | _ => none }
def lawS5016BNotObjectRow : OpenClaim := { program := "ybulkcyvy", sum := "ba2cfb01434e8dad10cac609631c1e80b00951b705dba7a26fb4b96c28d21695", func := "example.com/bundleforge/bundleforge/jsondoc.LawS5016BNotObject", spec := "lawS5016BNotObject", unfollowed := true, recurses := true, apart := false }
def LawS5016BNotObjectSaid : Prop := lawS5016BNotObjectRow.holds Yba.pinned (OpenSpec.ofChange lawS5016BNotObjectSpec)

/-- ITS FALSE NEIGHBOUR: 'it returns false'. Refute it at one input. -/
def lawS5016BNotObjectWrong : ChangeSpec := { name := "lawS5016BNotObject", fn := fun _ => fun
  | [d1, d2, d3] => { results := [.lit (.bool false)], args := [d1, d2, d3] }
  | _ => none }
def LawS5016BNotObjectWrongFalsely : Prop := lawS5016BNotObjectRow.holds Yba.pinned (OpenSpec.ofChange lawS5016BNotObjectWrong)

end Rows
end Go.Proofs.Ybulkcyvy
