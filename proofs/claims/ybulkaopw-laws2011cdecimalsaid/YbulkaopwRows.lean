/-
  No cell of these rows narrows 'for every input' (looked for: loops, veiled, ifaces, maps, wideKeys, modest, calm, conditions, laid).
  DERIVED. THE GIVEN ROWS OF THIS SEAT. 3 by the template 'for every input the law returns true; each argument reads behind the call as it read before'; 0 by the template 'total and deterministic' (their statements: YbulkaopwTotals.lean).
  GIVEN WITH THE SEED: the statements are not yours to turn. If you find one false, say at which input.
  Laid BY PROGRAM, IN A SANDBOX (cutbox-rows.mjs): the forced cells as the released guide's own fill.sh prints them over the translation d1ba4d12f7608ecb… (all of the seat's roots in one cut). By AI agents, Wed Nov 11 2026. No macro, syntax, notation, axiom, sorry.
-/
import Derived.Test.YbulkaopwChecked
import GoSem.Claim
import GoSem.ClaimJoined
import GoSem.ClaimMapViews
import Derived.JoinedTies
import Derived.KernelRfl
namespace Go.Proofs.Ybulkaopw
/- THE CELL 'sum', in the pinned program and in every row, IS THE sha256 OF THE DUMP (.gsa) THAT YbulkaopwProg.lean LOADS. Nothing in Lean hashes anything: it is a label: what it is worth is what the hold of that sum in a sandbox is worth. -/
noncomputable def Yba.pinned : Pinned := { name := "ybulkaopw", sum := "d1ba4d12f7608ecba09a60fc56919312736bc6b0489cab421987cf3f3488215b", checked := Yba.checked }
namespace Rows
def none {H : Type} : Left H := { results := [], args := [] }

/-- 'cmd.LawS2011ATable': WHATEVER THE INPUT: true; the input reads as it did. -/
def lawS2011ATableSpec : ChangeSpec := { name := "lawS2011ATable", fn := fun _ => fun
  | [d1, d2, d3, d4, d5] => { results := [.lit (.bool true)], args := [d1, d2, d3, d4, d5] }
  | _ => none }
def lawS2011ATableRow : OpenClaim := { program := "ybulkaopw", sum := "d1ba4d12f7608ecba09a60fc56919312736bc6b0489cab421987cf3f3488215b", func := "example.com/halyard-match/halyard-match/cmd.LawS2011ATable", spec := "lawS2011ATable", apart := false }
def LawS2011ATableSaid : Prop := lawS2011ATableRow.holds Yba.pinned (OpenSpec.ofChange lawS2011ATableSpec)

/-- ITS FALSE NEIGHBOUR: 'it returns false'. Refute it at one input. -/
def lawS2011ATableWrong : ChangeSpec := { name := "lawS2011ATable", fn := fun _ => fun
  | [d1, d2, d3, d4, d5] => { results := [.lit (.bool false)], args := [d1, d2, d3, d4, d5] }
  | _ => none }
def LawS2011ATableWrongFalsely : Prop := lawS2011ATableRow.holds Yba.pinned (OpenSpec.ofChange lawS2011ATableWrong)

/-- 'cmd.LawS2011AWrite': WHATEVER THE INPUT: true; the input reads as it did. -/
def lawS2011AWriteSpec : ChangeSpec := { name := "lawS2011AWrite", fn := fun _ => fun
  | [d1, d2, d3, d4, d5, d6, d7] => { results := [.lit (.bool true)], args := [d1, d2, d3, d4, d5, d6, d7] }
  | _ => none }
def lawS2011AWriteRow : OpenClaim := { program := "ybulkaopw", sum := "d1ba4d12f7608ecba09a60fc56919312736bc6b0489cab421987cf3f3488215b", func := "example.com/halyard-match/halyard-match/cmd.LawS2011AWrite", spec := "lawS2011AWrite", apart := false }
def LawS2011AWriteSaid : Prop := lawS2011AWriteRow.holds Yba.pinned (OpenSpec.ofChange lawS2011AWriteSpec)

/-- ITS FALSE NEIGHBOUR: 'it returns false'. Refute it at one input. -/
def lawS2011AWriteWrong : ChangeSpec := { name := "lawS2011AWrite", fn := fun _ => fun
  | [d1, d2, d3, d4, d5, d6, d7] => { results := [.lit (.bool false)], args := [d1, d2, d3, d4, d5, d6, d7] }
  | _ => none }
def LawS2011AWriteWrongFalsely : Prop := lawS2011AWriteRow.holds Yba.pinned (OpenSpec.ofChange lawS2011AWriteWrong)

/-- 'engine.LawS2011CDecimal': WHATEVER THE INPUT: true; the input reads as it did. -/
def lawS2011CDecimalSpec : ChangeSpec := { name := "lawS2011CDecimal", fn := fun _ => fun
  | [d1, d2, d3, d4, d5, d6, d7] => { results := [.lit (.bool true)], args := [d1, d2, d3, d4, d5, d6, d7] }
  | _ => none }
def lawS2011CDecimalRow : OpenClaim := { program := "ybulkaopw", sum := "d1ba4d12f7608ecba09a60fc56919312736bc6b0489cab421987cf3f3488215b", func := "example.com/halyard-match/halyard-match/engine.LawS2011CDecimal", spec := "lawS2011CDecimal", inPlace := ["math/bits.Add64"], named := ["math/bits.divideError", "math/bits.overflowError"], apart := false }
def LawS2011CDecimalSaid : Prop := lawS2011CDecimalRow.holds Yba.pinned (OpenSpec.ofChange lawS2011CDecimalSpec)

/-- ITS FALSE NEIGHBOUR: 'it returns false'. Refute it at one input. -/
def lawS2011CDecimalWrong : ChangeSpec := { name := "lawS2011CDecimal", fn := fun _ => fun
  | [d1, d2, d3, d4, d5, d6, d7] => { results := [.lit (.bool false)], args := [d1, d2, d3, d4, d5, d6, d7] }
  | _ => none }
def LawS2011CDecimalWrongFalsely : Prop := lawS2011CDecimalRow.holds Yba.pinned (OpenSpec.ofChange lawS2011CDecimalWrong)

end Rows
end Go.Proofs.Ybulkaopw
