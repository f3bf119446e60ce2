/-
  No cell of these rows narrows 'for every input' (looked for: loops, veiled, ifaces, maps, wideKeys, modest, calm, conditions, laid).
  DERIVED. THE GIVEN ROWS OF THIS SEAT. 2 by the template 'for every input the law returns true; each argument reads behind the call as it read before'; 0 by the template 'total and deterministic' (their statements: YbulktqyTotals.lean).
  GIVEN WITH THE SEED: the statements are not yours to turn. If you find one false, say at which input.
  Laid BY PROGRAM, IN A SANDBOX (cutbox-rows.mjs): the forced cells as the released guide's own fill.sh prints them over the translation 82ca071c8b1102ea… (all of the seat's roots in one cut). By AI agents, Wed Nov 11 2026. No macro, syntax, notation, axiom, sorry.
-/
import Derived.Test.YbulktqyChecked
import GoSem.Claim
import GoSem.ClaimJoined
import GoSem.ClaimMapViews
import Derived.JoinedTies
import Derived.KernelRfl
namespace Go.Proofs.Ybulktqy
/- THE CELL 'sum', in the pinned program and in every row, IS THE sha256 OF THE DUMP (.gsa) THAT YbulktqyProg.lean LOADS. Nothing in Lean hashes anything: it is a label: what it is worth is what the hold of that sum in a sandbox is worth. -/
noncomputable def Yba.pinned : Pinned := { name := "ybulktqy", sum := "82ca071c8b1102ea8e346587f088387a3b7c01db6f1899276367499302cfb849", checked := Yba.checked }
namespace Rows
def none {H : Type} : Left H := { results := [], args := [] }

/-- 'tcapsec.LawS0999CExact': WHATEVER THE INPUT: true; the input reads as it did. -/
def lawS0999CExactSpec : ChangeSpec := { name := "lawS0999CExact", fn := fun _ => fun
  | [d1, d2, d3, d4, d5] => { results := [.lit (.bool true)], args := [d1, d2, d3, d4, d5] }
  | _ => none }
def lawS0999CExactRow : OpenClaim := { program := "ybulktqy", sum := "82ca071c8b1102ea8e346587f088387a3b7c01db6f1899276367499302cfb849", func := "example.com/signalward/signalward/tcapsec.LawS0999CExact", spec := "lawS0999CExact", apart := false }
def LawS0999CExactSaid : Prop := lawS0999CExactRow.holds Yba.pinned (OpenSpec.ofChange lawS0999CExactSpec)

/-- ITS FALSE NEIGHBOUR: 'it returns false'. Refute it at one input. -/
def lawS0999CExactWrong : ChangeSpec := { name := "lawS0999CExact", fn := fun _ => fun
  | [d1, d2, d3, d4, d5] => { results := [.lit (.bool false)], args := [d1, d2, d3, d4, d5] }
  | _ => none }
def LawS0999CExactWrongFalsely : Prop := lawS0999CExactRow.holds Yba.pinned (OpenSpec.ofChange lawS0999CExactWrong)

/-- 'tcapsec.LawS0999CAppend': WHATEVER THE INPUT: true; the input reads as it did. -/
def lawS0999CAppendSpec : ChangeSpec := { name := "lawS0999CAppend", fn := fun _ => fun
  | [d1, d2, d3, d4, d5] => { results := [.lit (.bool true)], args := [d1, d2, d3, d4, d5] }
  | _ => none }
def lawS0999CAppendRow : OpenClaim := { program := "ybulktqy", sum := "82ca071c8b1102ea8e346587f088387a3b7c01db6f1899276367499302cfb849", func := "example.com/signalward/signalward/tcapsec.LawS0999CAppend", spec := "lawS0999CAppend", named := ["encoding/binary.BigEndian"], apart := false }
def LawS0999CAppendSaid : Prop := lawS0999CAppendRow.holds Yba.pinned (OpenSpec.ofChange lawS0999CAppendSpec)

/-- ITS FALSE NEIGHBOUR: 'it returns false'. Refute it at one input. -/
def lawS0999CAppendWrong : ChangeSpec := { name := "lawS0999CAppend", fn := fun _ => fun
  | [d1, d2, d3, d4, d5] => { results := [.lit (.bool false)], args := [d1, d2, d3, d4, d5] }
  | _ => none }
def LawS0999CAppendWrongFalsely : Prop := lawS0999CAppendRow.holds Yba.pinned (OpenSpec.ofChange lawS0999CAppendWrong)

end Rows
end Go.Proofs.Ybulktqy
