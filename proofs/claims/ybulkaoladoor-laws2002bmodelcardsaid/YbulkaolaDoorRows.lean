/-
  NARROWER THAN 'FOR EVERY INPUT', by the rows' own cells (each row's printed sentence says how): LawS2002BModel: laid · LawS2002BKeeps: laid.
  DERIVED. THE GIVEN ROWS OF THIS SEAT. 2 by the template 'for every input the law returns true; each argument reads behind the call as it read before'; 0 by the template 'total and deterministic' (their statements: YbulkaolaDoorTotals.lean).
  GIVEN WITH THE SEED: the statements are not yours to turn. If you find one false, say at which input.
  Laid BY PROGRAM, IN A SANDBOX (cutbox-rows.mjs): the forced cells as the released guide's own fill.sh prints them over the translation 89815c6d38f7098d… (all of the seat's roots in one cut). By AI agents, Wed Nov 11 2026. No macro, syntax, notation, axiom, sorry.
-/
import Derived.Test.YbulkaolaDoorChecked
import GoSem.Claim
import GoSem.ClaimJoined
import GoSem.ClaimMapViews
import Derived.JoinedTies
import Derived.KernelRfl
namespace Go.Proofs.YbulkaolaDoor
/- THE CELL 'sum', in the pinned program and in every row, IS THE sha256 OF THE DUMP (.gsa) THAT YbulkaolaDoorProg.lean LOADS. Nothing in Lean hashes anything: it is a label: what it is worth is what the hold of that sum in a sandbox is worth. -/
noncomputable def Ybad.pinned : Pinned := { name := "ybulkaoladoor", sum := "89815c6d38f7098dc69a73702ac904a1598f44f1b9f463226efbbc95e2f20992", checked := Ybad.checked }
namespace Rows
def none {H : Type} : Left H := { results := [], args := [] }

/- WHAT THE LISTED PACKAGE-LEVEL VARIABLES READ AS WHEN THE CALL BEGINS. Each datum BY PROGRAM (the guide's laid-datum.mjs) off the statement by which the dump's own 'gosem.cut.vars' lays the variable. In a bare row this is a premise. The card (YbulkaolaDoorCards.lean) ties it to the program's text. -/
def laid_example_com_envoy_accord_envoy_accord_endsScalar {H : Type} : DataW H := .agg [.lit (.bool false), .lit (.bool false), .lit (.bool false), .lit (.bool false), .lit (.bool false), .lit (.bool false), .lit (.bool false), .lit (.bool false), .lit (.bool false), .lit (.bool true), .lit (.bool true), .lit (.bool false), .lit (.bool false), .lit (.bool true), .lit (.bool false), .lit (.bool false), .lit (.bool false), .lit (.bool false), .lit (.bool false), .lit (.bool false), .lit (.bool false), .lit (.bool false), .lit (.bool false), .lit (.bool false), .lit (.bool false), .lit (.bool false), .lit (.bool false), .lit (.bool false), .lit (.bool false), .lit (.bool false), .lit (.bool false), .lit (.bool false), .lit (.bool true), .lit (.bool false), .lit (.bool true), .lit (.bool false), .lit (.bool false), .lit (.bool false), .lit (.bool false), .lit (.bool false), .lit (.bool false), .lit (.bool false), .lit (.bool false), .lit (.bool false), .lit (.bool true), .lit (.bool false), .lit (.bool false), .lit (.bool false), .lit (.bool false), .lit (.bool false), .lit (.bool false), .lit (.bool false), .lit (.bool false), .lit (.bool false), .lit (.bool false), .lit (.bool false), .lit (.bool false), .lit (.bool false), .lit (.bool true), .lit (.bool false), .lit (.bool false), .lit (.bool false), .lit (.bool false), .lit (.bool false), .lit (.bool false), .lit (.bool false), .lit (.bool false), .lit (.bool false), .lit (.bool false), .lit (.bool false), .lit (.bool false), .lit (.bool false), .lit (.bool false), .lit (.bool false), .lit (.bool false), .lit (.bool false), .lit (.bool false), .lit (.bool false), .lit (.bool false), .lit (.bool false), .lit (.bool false), .lit (.bool false), .lit (.bool false), .lit (.bool false), .lit (.bool false), .lit (.bool false), .lit (.bool false), .lit (.bool false), .lit (.bool false), .lit (.bool false), .lit (.bool false), .lit (.bool true), .lit (.bool false), .lit (.bool true), .lit (.bool false), .lit (.bool false), .lit (.bool false), .lit (.bool false), .lit (.bool false), .lit (.bool false), .lit (.bool false), .lit (.bool false), .lit (.bool false), .lit (.bool false), .lit (.bool false), .lit (.bool false), .lit (.bool false), .lit (.bool false), .lit (.bool false), .lit (.bool false), .lit (.bool false), .lit (.bool false), .lit (.bool false), .lit (.bool false), .lit (.bool false), .lit (.bool false), .lit (.bool false), .lit (.bool false), .lit (.bool false), .lit (.bool false), .lit (.bool false), .lit (.bool false), .lit (.bool false), .lit (.bool true), .lit (.bool false), .lit (.bool true), .lit (.bool false), .lit (.bool false), .lit (.bool false), .lit (.bool false), .lit (.bool false), .lit (.bool false), .lit (.bool false), .lit (.bool false), .lit (.bool false), .lit (.bool false), .lit (.bool false), .lit (.bool false), .lit (.bool false), .lit (.bool false), .lit (.bool false), .lit (.bool false), .lit (.bool false), .lit (.bool false), .lit (.bool false), .lit (.bool false), .lit (.bool false), .lit (.bool false), .lit (.bool false), .lit (.bool false), .lit (.bool false), .lit (.bool false), .lit (.bool false), .lit (.bool false), .lit (.bool false), .lit (.bool false), .lit (.bool false), .lit (.bool false), .lit (.bool false), .lit (.bool false), .lit (.bool false), .lit (.bool false), .lit (.bool false), .lit (.bool false), .lit (.bool false), .lit (.bool false), .lit (.bool false), .lit (.bool false), .lit (.bool false), .lit (.bool false), .lit (.bool false), .lit (.bool false), .lit (.bool false), .lit (.bool false), .lit (.bool false), .lit (.bool false), .lit (.bool false), .lit (.bool false), .lit (.bool false), .lit (.bool false), .lit (.bool false), .lit (.bool false), .lit (.bool false), .lit (.bool false), .lit (.bool false), .lit (.bool false), .lit (.bool false), .lit (.bool false), .lit (.bool false), .lit (.bool false), .lit (.bool false), .lit (.bool false), .lit (.bool false), .lit (.bool false), .lit (.bool false), .lit (.bool false), .lit (.bool false), .lit (.bool false), .lit (.bool false), .lit (.bool false), .lit (.bool false), .lit (.bool false), .lit (.bool false), .lit (.bool false), .lit (.bool false), .lit (.bool false), .lit (.bool false), .lit (.bool false), .lit (.bool false), .lit (.bool false), .lit (.bool false), .lit (.bool false), .lit (.bool false), .lit (.bool false), .lit (.bool false), .lit (.bool false), .lit (.bool false), .lit (.bool false), .lit (.bool false), .lit (.bool false), .lit (.bool false), .lit (.bool false), .lit (.bool false), .lit (.bool false), .lit (.bool false), .lit (.bool false), .lit (.bool false), .lit (.bool false), .lit (.bool false), .lit (.bool false), .lit (.bool false), .lit (.bool false), .lit (.bool false), .lit (.bool false), .lit (.bool false), .lit (.bool false), .lit (.bool false), .lit (.bool false), .lit (.bool false), .lit (.bool false), .lit (.bool false), .lit (.bool false), .lit (.bool false), .lit (.bool false), .lit (.bool false), .lit (.bool false), .lit (.bool false), .lit (.bool false), .lit (.bool false), .lit (.bool false), .lit (.bool false), .lit (.bool false), .lit (.bool false), .lit (.bool false), .lit (.bool false), .lit (.bool false)]

/-- 'envoy-accord.LawS2002BModel': WHATEVER THE INPUT: true; the input reads as it did. -/
def lawS2002BModelSpec : ChangeSpec := { name := "lawS2002BModel", vars := ["example.com/envoy-accord/envoy-accord.endsScalar"], fn := fun _ => fun
  | [d1, d2, g1] => { results := [.lit (.bool true)], args := [d1, d2], vars := [g1] }
  | _ => none }
def lawS2002BModelRow : OpenClaim := { program := "ybulkaoladoor", sum := "89815c6d38f7098dc69a73702ac904a1598f44f1b9f463226efbbc95e2f20992", func := "example.com/envoy-accord/envoy-accord.LawS2002BModel", spec := "lawS2002BModel", named := ["example.com/envoy-accord/envoy-accord.endsScalar"], apart := false, laid := [("example.com/envoy-accord/envoy-accord.endsScalar", laid_example_com_envoy_accord_envoy_accord_endsScalar)] }
def LawS2002BModelSaid : Prop := lawS2002BModelRow.holds Ybad.pinned (OpenSpec.ofChange lawS2002BModelSpec)

/-- ITS FALSE NEIGHBOUR: 'it returns false'. Refute it at one input. -/
def lawS2002BModelWrong : ChangeSpec := { name := "lawS2002BModel", vars := ["example.com/envoy-accord/envoy-accord.endsScalar"], fn := fun _ => fun
  | [d1, d2, g1] => { results := [.lit (.bool false)], args := [d1, d2], vars := [g1] }
  | _ => none }
def LawS2002BModelWrongFalsely : Prop := lawS2002BModelRow.holds Ybad.pinned (OpenSpec.ofChange lawS2002BModelWrong)

/-- 'envoy-accord.LawS2002BKeeps': WHATEVER THE INPUT: true; the input reads as it did. -/
def lawS2002BKeepsSpec : ChangeSpec := { name := "lawS2002BKeeps", vars := ["example.com/envoy-accord/envoy-accord.endsScalar"], fn := fun _ => fun
  | [d1, d2, d3, g1] => { results := [.lit (.bool true)], args := [d1, d2, d3], vars := [g1] }
  | _ => none }
def lawS2002BKeepsRow : OpenClaim := { program := "ybulkaoladoor", sum := "89815c6d38f7098dc69a73702ac904a1598f44f1b9f463226efbbc95e2f20992", func := "example.com/envoy-accord/envoy-accord.LawS2002BKeeps", spec := "lawS2002BKeeps", named := ["example.com/envoy-accord/envoy-accord.endsScalar"], apart := false, laid := [("example.com/envoy-accord/envoy-accord.endsScalar", laid_example_com_envoy_accord_envoy_accord_endsScalar)] }
def LawS2002BKeepsSaid : Prop := lawS2002BKeepsRow.holds Ybad.pinned (OpenSpec.ofChange lawS2002BKeepsSpec)

/-- ITS FALSE NEIGHBOUR: 'it returns false'. Refute it at one input. -/
def lawS2002BKeepsWrong : ChangeSpec := { name := "lawS2002BKeeps", vars := ["example.com/envoy-accord/envoy-accord.endsScalar"], fn := fun _ => fun
  | [d1, d2, d3, g1] => { results := [.lit (.bool false)], args := [d1, d2, d3], vars := [g1] }
  | _ => none }
def LawS2002BKeepsWrongFalsely : Prop := lawS2002BKeepsRow.holds Ybad.pinned (OpenSpec.ofChange lawS2002BKeepsWrong)

end Rows
end Go.Proofs.YbulkaolaDoor
