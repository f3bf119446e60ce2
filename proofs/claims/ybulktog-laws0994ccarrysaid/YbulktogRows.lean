/-
  No cell of these rows narrows 'for every input' (looked for: loops, veiled, ifaces, maps, wideKeys, modest, calm, conditions, laid).
  DERIVED. THE GIVEN ROWS OF THIS SEAT. 2 by the template 'for every input the law returns true; each argument reads behind the call as it read before'; 0 by the template 'total and deterministic' (their statements: YbulktogTotals.lean).
  GIVEN WITH THE SEED: the statements are not yours to turn. If you find one false, say at which input.
  Laid BY PROGRAM, IN A SANDBOX (cutbox-rows.mjs): the forced cells as the released guide's own fill.sh prints them over the translation 7dbb187bdc1c2cee… (all of the seat's roots in one cut). By AI agents, Wed Nov 11 2026. No macro, syntax, notation, axiom, sorry.
-/
import Derived.Test.YbulktogChecked
import GoSem.Claim
import GoSem.ClaimJoined
import GoSem.ClaimMapViews
import Derived.JoinedTies
import Derived.KernelRfl
namespace Go.Proofs.Ybulktog
/- THE CELL 'sum', in the pinned program and in every row, IS THE sha256 OF THE DUMP (.gsa) THAT YbulktogProg.lean LOADS. Nothing in Lean hashes anything: it is a label: what it is worth is what the hold of that sum in a sandbox is worth. -/
noncomputable def Yba.pinned : Pinned := { name := "ybulktog", sum := "7dbb187bdc1c2cee4c82e70db92e949f238d87da97affb0446b2cdd23b936093", checked := Yba.checked }
namespace Rows
def none {H : Type} : Left H := { results := [], args := [] }

/-- 'evenkeel.LawS0994CFirst': WHATEVER THE INPUT: true; the input reads as it did. -/
def lawS0994CFirstSpec : ChangeSpec := { name := "lawS0994CFirst", fn := fun _ => fun
  | [d] => { results := [.lit (.bool true)], args := [d] }
  | _ => none }
def lawS0994CFirstRow : OpenClaim := { program := "ybulktog", sum := "7dbb187bdc1c2cee4c82e70db92e949f238d87da97affb0446b2cdd23b936093", func := "example.com/evenkeel/evenkeel.LawS0994CFirst", spec := "lawS0994CFirst", unfollowed := true, recurses := true, plainKeys := false, apart := false }
def LawS0994CFirstSaid : Prop := lawS0994CFirstRow.holds Yba.pinned (OpenSpec.ofChange lawS0994CFirstSpec)

/-- ITS FALSE NEIGHBOUR: 'it returns false'. Refute it at one input. -/
def lawS0994CFirstWrong : ChangeSpec := { name := "lawS0994CFirst", fn := fun _ => fun
  | [d] => { results := [.lit (.bool false)], args := [d] }
  | _ => none }
def LawS0994CFirstWrongFalsely : Prop := lawS0994CFirstRow.holds Yba.pinned (OpenSpec.ofChange lawS0994CFirstWrong)

/-- 'evenkeel.LawS0994CCarry': WHATEVER THE INPUT: true; the input reads as it did. -/
def lawS0994CCarrySpec : ChangeSpec := { name := "lawS0994CCarry", fn := fun _ => fun
  | [d1, d2] => { results := [.lit (.bool true)], args := [d1, d2] }
  | _ => none }
def lawS0994CCarryRow : OpenClaim := { program := "ybulktog", sum := "7dbb187bdc1c2cee4c82e70db92e949f238d87da97affb0446b2cdd23b936093", func := "example.com/evenkeel/evenkeel.LawS0994CCarry", spec := "lawS0994CCarry", unfollowed := true, recurses := true, plainKeys := false, apart := false }
def LawS0994CCarrySaid : Prop := lawS0994CCarryRow.holds Yba.pinned (OpenSpec.ofChange lawS0994CCarrySpec)

/-- ITS FALSE NEIGHBOUR: 'it returns false'. Refute it at one input. -/
def lawS0994CCarryWrong : ChangeSpec := { name := "lawS0994CCarry", fn := fun _ => fun
  | [d1, d2] => { results := [.lit (.bool false)], args := [d1, d2] }
  | _ => none }
def LawS0994CCarryWrongFalsely : Prop := lawS0994CCarryRow.holds Yba.pinned (OpenSpec.ofChange lawS0994CCarryWrong)

end Rows
end Go.Proofs.Ybulktog
