/-
  No cell of these rows narrows 'for every input' (looked for: loops, veiled, ifaces, maps, wideKeys, modest, calm, conditions, laid).
  DERIVED. THE GIVEN ROWS OF THIS SEAT. 3 by the template 'for every input the law returns true; each argument reads behind the call as it read before'; 0 by the template 'total and deterministic' (their statements: YbulktmcTotals.lean).
  GIVEN WITH THE SEED: the statements are not yours to turn. If you find one false, say at which input.
  Laid BY PROGRAM, IN A SANDBOX (cutbox-rows.mjs): the forced cells as the released guide's own fill.sh prints them over the translation d1b92d26a9945198… (all of the seat's roots in one cut). By AI agents, Wed Nov 11 2026. No macro, syntax, notation, axiom, sorry.
-/
import Derived.Test.YbulktmcChecked
import GoSem.Claim
import GoSem.ClaimJoined
import GoSem.ClaimMapViews
import Derived.JoinedTies
import Derived.KernelRfl
namespace Go.Proofs.Ybulktmc
/- THE CELL 'sum', in the pinned program and in every row, IS THE sha256 OF THE DUMP (.gsa) THAT YbulktmcProg.lean LOADS. Nothing in Lean hashes anything: it is a label: what it is worth is what the hold of that sum in a sandbox is worth. -/
noncomputable def Yba.pinned : Pinned := { name := "ybulktmc", sum := "d1b92d26a99451989f7a8b3253663e7c03d4bf4f5fb63bec5a2933f7b2b91a94", checked := Yba.checked }
namespace Rows
def none {H : Type} : Left H := { results := [], args := [] }

/-- 'kindred.LawS0990ASetsIn': WHATEVER THE INPUT: true; the input reads as it did. -/
def lawS0990ASetsInSpec : ChangeSpec := { name := "lawS0990ASetsIn", fn := fun _ => fun
  | [d1, d2, d3, d4, d5] => { results := [.lit (.bool true)], args := [d1, d2, d3, d4, d5] }
  | _ => none }
def lawS0990ASetsInRow : OpenClaim := { program := "ybulktmc", sum := "d1b92d26a99451989f7a8b3253663e7c03d4bf4f5fb63bec5a2933f7b2b91a94", func := "example.com/kindred/kindred.LawS0990ASetsIn", spec := "lawS0990ASetsIn", unfollowed := true, recurses := true, plainKeys := false, apart := false }
def LawS0990ASetsInSaid : Prop := lawS0990ASetsInRow.holds Yba.pinned (OpenSpec.ofChange lawS0990ASetsInSpec)

/-- ITS FALSE NEIGHBOUR: 'it returns false'. Refute it at one input. -/
def lawS0990ASetsInWrong : ChangeSpec := { name := "lawS0990ASetsIn", fn := fun _ => fun
  | [d1, d2, d3, d4, d5] => { results := [.lit (.bool false)], args := [d1, d2, d3, d4, d5] }
  | _ => none }
def LawS0990ASetsInWrongFalsely : Prop := lawS0990ASetsInRow.holds Yba.pinned (OpenSpec.ofChange lawS0990ASetsInWrong)

/-- 'kindred.LawS0990ATwoQueries': WHATEVER THE INPUT: true; the input reads as it did. -/
def lawS0990ATwoQueriesSpec : ChangeSpec := { name := "lawS0990ATwoQueries", fn := fun _ => fun
  | [d] => { results := [.lit (.bool true)], args := [d] }
  | _ => none }
def lawS0990ATwoQueriesRow : OpenClaim := { program := "ybulktmc", sum := "d1b92d26a99451989f7a8b3253663e7c03d4bf4f5fb63bec5a2933f7b2b91a94", func := "example.com/kindred/kindred.LawS0990ATwoQueries", spec := "lawS0990ATwoQueries", unfollowed := true, recurses := true, plainKeys := false, apart := false }
def LawS0990ATwoQueriesSaid : Prop := lawS0990ATwoQueriesRow.holds Yba.pinned (OpenSpec.ofChange lawS0990ATwoQueriesSpec)

/-- ITS FALSE NEIGHBOUR: 'it returns false'. Refute it at one input. -/
def lawS0990ATwoQueriesWrong : ChangeSpec := { name := "lawS0990ATwoQueries", fn := fun _ => fun
  | [d] => { results := [.lit (.bool false)], args := [d] }
  | _ => none }
def LawS0990ATwoQueriesWrongFalsely : Prop := lawS0990ATwoQueriesRow.holds Yba.pinned (OpenSpec.ofChange lawS0990ATwoQueriesWrong)

/-- 'kindred.LawS0990CPicks': WHATEVER THE INPUT: true; the input reads as it did. -/
def lawS0990CPicksSpec : ChangeSpec := { name := "lawS0990CPicks", fn := fun _ => fun
  | [d1, d2, d3] => { results := [.lit (.bool true)], args := [d1, d2, d3] }
  | _ => none }
def lawS0990CPicksRow : OpenClaim := { program := "ybulktmc", sum := "d1b92d26a99451989f7a8b3253663e7c03d4bf4f5fb63bec5a2933f7b2b91a94", func := "example.com/kindred/kindred.LawS0990CPicks", spec := "lawS0990CPicks", plainKeys := false, apart := false }
def LawS0990CPicksSaid : Prop := lawS0990CPicksRow.holds Yba.pinned (OpenSpec.ofChange lawS0990CPicksSpec)

/-- ITS FALSE NEIGHBOUR: 'it returns false'. Refute it at one input. -/
def lawS0990CPicksWrong : ChangeSpec := { name := "lawS0990CPicks", fn := fun _ => fun
  | [d1, d2, d3] => { results := [.lit (.bool false)], args := [d1, d2, d3] }
  | _ => none }
def LawS0990CPicksWrongFalsely : Prop := lawS0990CPicksRow.holds Yba.pinned (OpenSpec.ofChange lawS0990CPicksWrong)

end Rows
end Go.Proofs.Ybulktmc
