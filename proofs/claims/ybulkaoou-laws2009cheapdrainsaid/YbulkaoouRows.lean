/-
  No cell of these rows narrows 'for every input' (looked for: loops, veiled, ifaces, maps, wideKeys, modest, calm, conditions, laid).
  DERIVED. THE GIVEN ROWS OF THIS SEAT. 2 by the template 'for every input the law returns true; each argument reads behind the call as it read before'; 0 by the template 'total and deterministic' (their statements: YbulkaoouTotals.lean).
  GIVEN WITH THE SEED: the statements are not yours to turn. If you find one false, say at which input.
  Laid BY PROGRAM, IN A SANDBOX (cutbox-rows.mjs): the forced cells as the released guide's own fill.sh prints them over the translation 36524139bbedfa88… (all of the seat's roots in one cut). By AI agents, Wed Nov 11 2026. No macro, syntax, notation, axiom, sorry.
-/
import Derived.Test.YbulkaoouChecked
import GoSem.Claim
import GoSem.ClaimJoined
import GoSem.ClaimMapViews
import Derived.JoinedTies
import Derived.KernelRfl
namespace Go.Proofs.Ybulkaoou
/- THE CELL 'sum', in the pinned program and in every row, IS THE sha256 OF THE DUMP (.gsa) THAT YbulkaoouProg.lean LOADS. Nothing in Lean hashes anything: it is a label: what it is worth is what the hold of that sum in a sandbox is worth. -/
noncomputable def Yba.pinned : Pinned := { name := "ybulkaoou", sum := "36524139bbedfa887b6563e09fda540eed5ddade2bcccc097b18f71cd71db8ee", checked := Yba.checked }
namespace Rows
def none {H : Type} : Left H := { results := [], args := [] }

/-- 'crossbook.LawS2009CPop': WHATEVER THE INPUT: true; the input reads as it did. -/
def lawS2009CPopSpec : ChangeSpec := { name := "lawS2009CPop", fn := fun _ => fun
  | [d1, d2] => { results := [.lit (.bool true)], args := [d1, d2] }
  | _ => none }
def lawS2009CPopRow : OpenClaim := { program := "ybulkaoou", sum := "36524139bbedfa887b6563e09fda540eed5ddade2bcccc097b18f71cd71db8ee", func := "example.com/crossbook/crossbook.LawS2009CPop", spec := "lawS2009CPop", plainKeys := false, apart := false }
def LawS2009CPopSaid : Prop := lawS2009CPopRow.holds Yba.pinned (OpenSpec.ofChange lawS2009CPopSpec)

/-- ITS FALSE NEIGHBOUR: 'it returns false'. Refute it at one input. -/
def lawS2009CPopWrong : ChangeSpec := { name := "lawS2009CPop", fn := fun _ => fun
  | [d1, d2] => { results := [.lit (.bool false)], args := [d1, d2] }
  | _ => none }
def LawS2009CPopWrongFalsely : Prop := lawS2009CPopRow.holds Yba.pinned (OpenSpec.ofChange lawS2009CPopWrong)

/-- 'crossbook.LawS2009CHeapDrain': WHATEVER THE INPUT: true; the input reads as it did. -/
def lawS2009CHeapDrainSpec : ChangeSpec := { name := "lawS2009CHeapDrain", fn := fun _ => fun
  | [d1, d2] => { results := [.lit (.bool true)], args := [d1, d2] }
  | _ => none }
def lawS2009CHeapDrainRow : OpenClaim := { program := "ybulkaoou", sum := "36524139bbedfa887b6563e09fda540eed5ddade2bcccc097b18f71cd71db8ee", func := "example.com/crossbook/crossbook.LawS2009CHeapDrain", spec := "lawS2009CHeapDrain", unfollowed := true, recurses := true, plainKeys := false, apart := false }
def LawS2009CHeapDrainSaid : Prop := lawS2009CHeapDrainRow.holds Yba.pinned (OpenSpec.ofChange lawS2009CHeapDrainSpec)

/-- ITS FALSE NEIGHBOUR: 'it returns false'. Refute it at one input. -/
def lawS2009CHeapDrainWrong : ChangeSpec := { name := "lawS2009CHeapDrain", fn := fun _ => fun
  | [d1, d2] => { results := [.lit (.bool false)], args := [d1, d2] }
  | _ => none }
def LawS2009CHeapDrainWrongFalsely : Prop := lawS2009CHeapDrainRow.holds Yba.pinned (OpenSpec.ofChange lawS2009CHeapDrainWrong)

end Rows
end Go.Proofs.Ybulkaoou
