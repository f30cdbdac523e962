/-
  No cell of these rows narrows 'for every input' (looked for: loops, veiled, ifaces, maps, wideKeys, modest, calm, conditions, laid).
  DERIVED. THE GIVEN ROWS OF THIS SEAT. 2 by the template 'for every input the law returns true; each argument reads behind the call as it read before'; 0 by the template 'total and deterministic' (their statements: Qxb6612694aTotals.lean).
  GIVEN WITH THE SEED: the statements are not yours to turn. If you find one false, say at which input.
  Laid BY PROGRAM, IN A SANDBOX (cutbox-rows.mjs): the forced cells as the released guide's own fill.sh prints them over the translation af774813bc900158… (all of the seat's roots in one cut). By AI agents, Wed Nov 11 2026. No macro, syntax, notation, axiom, sorry.
-/
import Derived.Test.Qxb6612694aChecked
import GoSem.Claim
import GoSem.ClaimJoined
import GoSem.ClaimMapViews
import Derived.JoinedTies
import Derived.KernelRfl
namespace Go.Proofs.Qxb6612694a
/- THE CELL 'sum', in the pinned program and in every row, IS THE sha256 OF THE DUMP (.gsa) THAT Qxb6612694aProg.lean LOADS. Nothing in Lean hashes anything: it is a label: what it is worth is what the hold of that sum in a sandbox is worth. -/
noncomputable def Try.pinned : Pinned := { name := "qxb6612694a", sum := "af774813bc900158712be43031bc87eb0ce62d79b79189eeb08a872f80cbf154", checked := Try.checked }
namespace Rows
def none {H : Type} : Left H := { results := [], args := [] }

/-- 'zzlaws_internal_agent_b1.FnWeekStateEdgeIsWhereTheStateTurns': WHATEVER THE INPUT: true; the input reads as it did. -/
def fnWeekStateEdgeIsWhereTheStateTurnsSpec : ChangeSpec := { name := "fnWeekStateEdgeIsWhereTheStateTurns", fn := fun _ => fun
  | [d1, d2, d3] => { results := [.lit (.bool true)], args := [d1, d2, d3] }
  | _ => none }
def fnWeekStateEdgeIsWhereTheStateTurnsRow : OpenClaim := { program := "qxb6612694a", sum := "af774813bc900158712be43031bc87eb0ce62d79b79189eeb08a872f80cbf154", func := "example.com/rotagate/rotagate/zzlaws_internal_agent_b1.FnWeekStateEdgeIsWhereTheStateTurns", spec := "fnWeekStateEdgeIsWhereTheStateTurns", unfollowed := true, recurses := true, apart := false }
def FnWeekStateEdgeIsWhereTheStateTurnsSaid : Prop := fnWeekStateEdgeIsWhereTheStateTurnsRow.holds Try.pinned (OpenSpec.ofChange fnWeekStateEdgeIsWhereTheStateTurnsSpec)

/-- ITS FALSE NEIGHBOUR: 'it returns false'. Refute it at one input. -/
def fnWeekStateEdgeIsWhereTheStateTurnsWrong : ChangeSpec := { name := "fnWeekStateEdgeIsWhereTheStateTurns", fn := fun _ => fun
  | [d1, d2, d3] => { results := [.lit (.bool false)], args := [d1, d2, d3] }
  | _ => none }
def FnWeekStateEdgeIsWhereTheStateTurnsWrongFalsely : Prop := fnWeekStateEdgeIsWhereTheStateTurnsRow.holds Try.pinned (OpenSpec.ofChange fnWeekStateEdgeIsWhereTheStateTurnsWrong)

/-- 'zzlaws_internal_agent_b1.FnWeekStateOpensAtEachSpanStart': WHATEVER THE INPUT: true; the input reads as it did. -/
def fnWeekStateOpensAtEachSpanStartSpec : ChangeSpec := { name := "fnWeekStateOpensAtEachSpanStart", fn := fun _ => fun
  | [d1, d2, d3] => { results := [.lit (.bool true)], args := [d1, d2, d3] }
  | _ => none }
def fnWeekStateOpensAtEachSpanStartRow : OpenClaim := { program := "qxb6612694a", sum := "af774813bc900158712be43031bc87eb0ce62d79b79189eeb08a872f80cbf154", func := "example.com/rotagate/rotagate/zzlaws_internal_agent_b1.FnWeekStateOpensAtEachSpanStart", spec := "fnWeekStateOpensAtEachSpanStart", unfollowed := true, recurses := true, apart := false }
def FnWeekStateOpensAtEachSpanStartSaid : Prop := fnWeekStateOpensAtEachSpanStartRow.holds Try.pinned (OpenSpec.ofChange fnWeekStateOpensAtEachSpanStartSpec)

/-- ITS FALSE NEIGHBOUR: 'it returns false'. Refute it at one input. -/
def fnWeekStateOpensAtEachSpanStartWrong : ChangeSpec := { name := "fnWeekStateOpensAtEachSpanStart", fn := fun _ => fun
  | [d1, d2, d3] => { results := [.lit (.bool false)], args := [d1, d2, d3] }
  | _ => none }
def FnWeekStateOpensAtEachSpanStartWrongFalsely : Prop := fnWeekStateOpensAtEachSpanStartRow.holds Try.pinned (OpenSpec.ofChange fnWeekStateOpensAtEachSpanStartWrong)

end Rows
end Go.Proofs.Qxb6612694a
