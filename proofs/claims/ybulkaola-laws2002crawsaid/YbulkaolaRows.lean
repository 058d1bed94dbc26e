/-
  No cell of these rows narrows 'for every input' (looked for: loops, veiled, ifaces, maps, wideKeys, modest, calm, conditions, laid).
  DERIVED. THE GIVEN ROWS OF THIS SEAT. 2 by the template 'for every input the law returns true; each argument reads behind the call as it read before'; 0 by the template 'total and deterministic' (their statements: YbulkaolaTotals.lean).
  GIVEN WITH THE SEED: the statements are not yours to turn. If you find one false, say at which input.
  Laid BY PROGRAM, IN A SANDBOX (cutbox-rows.mjs): the forced cells as the released guide's own fill.sh prints them over the translation b8670c9423336711… (all of the seat's roots in one cut). By AI agents, Wed Nov 11 2026. No macro, syntax, notation, axiom, sorry.
-/
import Derived.Test.YbulkaolaChecked
import GoSem.Claim
import GoSem.ClaimJoined
import GoSem.ClaimMapViews
import Derived.JoinedTies
import Derived.KernelRfl
namespace Go.Proofs.Ybulkaola
/- THE CELL 'sum', in the pinned program and in every row, IS THE sha256 OF THE DUMP (.gsa) THAT YbulkaolaProg.lean LOADS. Nothing in Lean hashes anything: it is a label: what it is worth is what the hold of that sum in a sandbox is worth. -/
noncomputable def Yba.pinned : Pinned := { name := "ybulkaola", sum := "b8670c9423336711b4b366218e0d3b3ef270166438a25b9b3235e23eb8c270f5", checked := Yba.checked }
namespace Rows
def none {H : Type} : Left H := { results := [], args := [] }

/-- 'envoy-accord.LawS2002CRaw': WHATEVER THE INPUT: true; the input reads as it did. -/
def lawS2002CRawSpec : ChangeSpec := { name := "lawS2002CRaw", fn := fun _ => fun
  | [d1, d2, d3] => { results := [.lit (.bool true)], args := [d1, d2, d3] }
  | _ => none }
def lawS2002CRawRow : OpenClaim := { program := "ybulkaola", sum := "b8670c9423336711b4b366218e0d3b3ef270166438a25b9b3235e23eb8c270f5", func := "example.com/envoy-accord/envoy-accord.LawS2002CRaw", spec := "lawS2002CRaw", apart := false }
def LawS2002CRawSaid : Prop := lawS2002CRawRow.holds Yba.pinned (OpenSpec.ofChange lawS2002CRawSpec)

/-- ITS FALSE NEIGHBOUR: 'it returns false'. Refute it at one input. -/
def lawS2002CRawWrong : ChangeSpec := { name := "lawS2002CRaw", fn := fun _ => fun
  | [d1, d2, d3] => { results := [.lit (.bool false)], args := [d1, d2, d3] }
  | _ => none }
def LawS2002CRawWrongFalsely : Prop := lawS2002CRawRow.holds Yba.pinned (OpenSpec.ofChange lawS2002CRawWrong)

/-- 'envoy-accord.LawS2002CShaped': WHATEVER THE INPUT: true; the input reads as it did. -/
def lawS2002CShapedSpec : ChangeSpec := { name := "lawS2002CShaped", fn := fun _ => fun
  | [d1, d2, d3] => { results := [.lit (.bool true)], args := [d1, d2, d3] }
  | _ => none }
def lawS2002CShapedRow : OpenClaim := { program := "ybulkaola", sum := "b8670c9423336711b4b366218e0d3b3ef270166438a25b9b3235e23eb8c270f5", func := "example.com/envoy-accord/envoy-accord.LawS2002CShaped", spec := "lawS2002CShaped", apart := false }
def LawS2002CShapedSaid : Prop := lawS2002CShapedRow.holds Yba.pinned (OpenSpec.ofChange lawS2002CShapedSpec)

/-- ITS FALSE NEIGHBOUR: 'it returns false'. Refute it at one input. -/
def lawS2002CShapedWrong : ChangeSpec := { name := "lawS2002CShaped", fn := fun _ => fun
  | [d1, d2, d3] => { results := [.lit (.bool false)], args := [d1, d2, d3] }
  | _ => none }
def LawS2002CShapedWrongFalsely : Prop := lawS2002CShapedRow.holds Yba.pinned (OpenSpec.ofChange lawS2002CShapedWrong)

end Rows
end Go.Proofs.Ybulkaola
