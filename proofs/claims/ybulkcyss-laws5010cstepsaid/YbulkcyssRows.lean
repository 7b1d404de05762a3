/-
  No cell of these rows narrows 'for every input' (looked for: loops, veiled, ifaces, maps, wideKeys, modest, calm, conditions, laid).
  DERIVED. THE GIVEN ROWS OF THIS SEAT. 2 by the template 'for every input the law returns true; each argument reads behind the call as it read before'; 0 by the template 'total and deterministic' (their statements: YbulkcyssTotals.lean).
  GIVEN WITH THE SEED: the statements are not yours to turn. If you find one false, say at which input.
  Laid BY PROGRAM, IN A SANDBOX (cutbox-rows.mjs): the forced cells as the released guide's own fill.sh prints them over the translation 54147579e8614c40… (all of the seat's roots in one cut). By AI agents, Wed Nov 11 2026. No macro, syntax, notation, axiom, sorry.
-/
import Derived.Test.YbulkcyssChecked
import GoSem.Claim
import GoSem.ClaimJoined
import GoSem.ClaimMapViews
import Derived.JoinedTies
import Derived.KernelRfl
namespace Go.Proofs.Ybulkcyss
/- THE CELL 'sum', in the pinned program and in every row, IS THE sha256 OF THE DUMP (.gsa) THAT YbulkcyssProg.lean LOADS. Nothing in Lean hashes anything: it is a label: what it is worth is what the hold of that sum in a sandbox is worth. -/
noncomputable def Yba.pinned : Pinned := { name := "ybulkcyss", sum := "54147579e8614c40947415be17e410bdfc43980ca1e7ed15f0b00193bcfc03b3", checked := Yba.checked }
namespace Rows
def none {H : Type} : Left H := { results := [], args := [] }

/-- 'sigv4.LawS5010CExact': WHATEVER THE INPUT: true; the input reads as it did. -/
def lawS5010CExactSpec : ChangeSpec := { name := "lawS5010CExact", fn := fun _ => fun
  | [d1, d2] => { results := [.lit (.bool true)], args := [d1, d2] }
  | _ => none }
def lawS5010CExactRow : OpenClaim := { program := "ybulkcyss", sum := "54147579e8614c40947415be17e410bdfc43980ca1e7ed15f0b00193bcfc03b3", func := "example.com/nimble-signet/nimble-signet/sigv4.LawS5010CExact", spec := "lawS5010CExact", unfollowed := true, recurses := true, apart := false }
def LawS5010CExactSaid : Prop := lawS5010CExactRow.holds Yba.pinned (OpenSpec.ofChange lawS5010CExactSpec)

/-- ITS FALSE NEIGHBOUR: 'it returns false'. Refute it at one input. -/
def lawS5010CExactWrong : ChangeSpec := { name := "lawS5010CExact", fn := fun _ => fun
  | [d1, d2] => { results := [.lit (.bool false)], args := [d1, d2] }
  | _ => none }
def LawS5010CExactWrongFalsely : Prop := lawS5010CExactRow.holds Yba.pinned (OpenSpec.ofChange lawS5010CExactWrong)

/-- 'sigv4.LawS5010CStep': WHATEVER THE INPUT: true; the input reads as it did. -/
def lawS5010CStepSpec : ChangeSpec := { name := "lawS5010CStep", fn := fun _ => fun
  | [d] => { results := [.lit (.bool true)], args := [d] }
  | _ => none }
def lawS5010CStepRow : OpenClaim := { program := "ybulkcyss", sum := "54147579e8614c40947415be17e410bdfc43980ca1e7ed15f0b00193bcfc03b3", func := "example.com/nimble-signet/nimble-signet/sigv4.LawS5010CStep", spec := "lawS5010CStep", unfollowed := true, recurses := true, apart := false }
def LawS5010CStepSaid : Prop := lawS5010CStepRow.holds Yba.pinned (OpenSpec.ofChange lawS5010CStepSpec)

/-- ITS FALSE NEIGHBOUR: 'it returns false'. Refute it at one input. -/
def lawS5010CStepWrong : ChangeSpec := { name := "lawS5010CStep", fn := fun _ => fun
  | [d] => { results := [.lit (.bool false)], args := [d] }
  | _ => none }
def LawS5010CStepWrongFalsely : Prop := lawS5010CStepRow.holds Yba.pinned (OpenSpec.ofChange lawS5010CStepWrong)

end Rows
end Go.Proofs.Ybulkcyss
