/-
  No cell of these rows narrows 'for every input' (looked for: loops, veiled, ifaces, maps, wideKeys, modest, calm, conditions, laid).
  DERIVED. THE GIVEN ROWS OF THIS SEAT. 4 by the template 'for every input the law returns true; each argument reads behind the call as it read before'; 0 by the template 'total and deterministic' (their statements: Qxb6612677aTotals.lean).
  GIVEN WITH THE SEED: the statements are not yours to turn. If you find one false, say at which input.
  Laid BY PROGRAM, IN A SANDBOX (cutbox-rows.mjs): the forced cells as the released guide's own fill.sh prints them over the translation bee0c3d42ab59550… (all of the seat's roots in one cut). By AI agents, Wed Nov 11 2026. No macro, syntax, notation, axiom, sorry.
-/
import Derived.Test.Qxb6612677aChecked
import GoSem.Claim
import GoSem.ClaimJoined
import GoSem.ClaimMapViews
import Derived.JoinedTies
import Derived.KernelRfl
namespace Go.Proofs.Qxb6612677a
/- THE CELL 'sum', in the pinned program and in every row, IS THE sha256 OF THE DUMP (.gsa) THAT Qxb6612677aProg.lean LOADS. Nothing in Lean hashes anything: it is a label: what it is worth is what the hold of that sum in a sandbox is worth. -/
noncomputable def Try.pinned : Pinned := { name := "qxb6612677a", sum := "bee0c3d42ab595502b332393a482cf20097081bd0ecc2cb0dd82b1af7f5dd8a7", checked := Try.checked }
namespace Rows
def none {H : Type} : Left H := { results := [], args := [] }

/-- 'zzlaws_pkg_descriptor_b1.FnMemberSplitsAtAnyCut': WHATEVER THE INPUT: true; the input reads as it did. -/
def fnMemberSplitsAtAnyCutSpec : ChangeSpec := { name := "fnMemberSplitsAtAnyCut", fn := fun _ => fun
  | [d1, d2, d3, d4, d5, d6, d7] => { results := [.lit (.bool true)], args := [d1, d2, d3, d4, d5, d6, d7] }
  | _ => none }
def fnMemberSplitsAtAnyCutRow : OpenClaim := { program := "qxb6612677a", sum := "bee0c3d42ab595502b332393a482cf20097081bd0ecc2cb0dd82b1af7f5dd8a7", func := "example.com/sealwright/sealwright/zzlaws_pkg_descriptor_b1.FnMemberSplitsAtAnyCut", spec := "fnMemberSplitsAtAnyCut", unfollowed := true, recurses := true, apart := false }
def FnMemberSplitsAtAnyCutSaid : Prop := fnMemberSplitsAtAnyCutRow.holds Try.pinned (OpenSpec.ofChange fnMemberSplitsAtAnyCutSpec)

/-- ITS FALSE NEIGHBOUR: 'it returns false'. Refute it at one input. -/
def fnMemberSplitsAtAnyCutWrong : ChangeSpec := { name := "fnMemberSplitsAtAnyCut", fn := fun _ => fun
  | [d1, d2, d3, d4, d5, d6, d7] => { results := [.lit (.bool false)], args := [d1, d2, d3, d4, d5, d6, d7] }
  | _ => none }
def FnMemberSplitsAtAnyCutWrongFalsely : Prop := fnMemberSplitsAtAnyCutRow.holds Try.pinned (OpenSpec.ofChange fnMemberSplitsAtAnyCutWrong)

/-- 'zzlaws_pkg_descriptor_b1.FnMemberAfterOneIsPutInAnywhere': WHATEVER THE INPUT: true; the input reads as it did. -/
def fnMemberAfterOneIsPutInAnywhereSpec : ChangeSpec := { name := "fnMemberAfterOneIsPutInAnywhere", fn := fun _ => fun
  | [d1, d2, d3, d4, d5, d6, d7, d8] => { results := [.lit (.bool true)], args := [d1, d2, d3, d4, d5, d6, d7, d8] }
  | _ => none }
def fnMemberAfterOneIsPutInAnywhereRow : OpenClaim := { program := "qxb6612677a", sum := "bee0c3d42ab595502b332393a482cf20097081bd0ecc2cb0dd82b1af7f5dd8a7", func := "example.com/sealwright/sealwright/zzlaws_pkg_descriptor_b1.FnMemberAfterOneIsPutInAnywhere", spec := "fnMemberAfterOneIsPutInAnywhere", unfollowed := true, recurses := true, apart := false }
def FnMemberAfterOneIsPutInAnywhereSaid : Prop := fnMemberAfterOneIsPutInAnywhereRow.holds Try.pinned (OpenSpec.ofChange fnMemberAfterOneIsPutInAnywhereSpec)

/-- ITS FALSE NEIGHBOUR: 'it returns false'. Refute it at one input. -/
def fnMemberAfterOneIsPutInAnywhereWrong : ChangeSpec := { name := "fnMemberAfterOneIsPutInAnywhere", fn := fun _ => fun
  | [d1, d2, d3, d4, d5, d6, d7, d8] => { results := [.lit (.bool false)], args := [d1, d2, d3, d4, d5, d6, d7, d8] }
  | _ => none }
def FnMemberAfterOneIsPutInAnywhereWrongFalsely : Prop := fnMemberAfterOneIsPutInAnywhereRow.holds Try.pinned (OpenSpec.ofChange fnMemberAfterOneIsPutInAnywhereWrong)

/-- 'zzlaws_pkg_descriptor_b1.FnAtLineStartSplitsAtAnyCut': WHATEVER THE INPUT: true; the input reads as it did. -/
def fnAtLineStartSplitsAtAnyCutSpec : ChangeSpec := { name := "fnAtLineStartSplitsAtAnyCut", fn := fun _ => fun
  | [d1, d2, d3, d4, d5, d6, d7, d8, d9] => { results := [.lit (.bool true)], args := [d1, d2, d3, d4, d5, d6, d7, d8, d9] }
  | _ => none }
def fnAtLineStartSplitsAtAnyCutRow : OpenClaim := { program := "qxb6612677a", sum := "bee0c3d42ab595502b332393a482cf20097081bd0ecc2cb0dd82b1af7f5dd8a7", func := "example.com/sealwright/sealwright/zzlaws_pkg_descriptor_b1.FnAtLineStartSplitsAtAnyCut", spec := "fnAtLineStartSplitsAtAnyCut", apart := false }
def FnAtLineStartSplitsAtAnyCutSaid : Prop := fnAtLineStartSplitsAtAnyCutRow.holds Try.pinned (OpenSpec.ofChange fnAtLineStartSplitsAtAnyCutSpec)

/-- ITS FALSE NEIGHBOUR: 'it returns false'. Refute it at one input. -/
def fnAtLineStartSplitsAtAnyCutWrong : ChangeSpec := { name := "fnAtLineStartSplitsAtAnyCut", fn := fun _ => fun
  | [d1, d2, d3, d4, d5, d6, d7, d8, d9] => { results := [.lit (.bool false)], args := [d1, d2, d3, d4, d5, d6, d7, d8, d9] }
  | _ => none }
def FnAtLineStartSplitsAtAnyCutWrongFalsely : Prop := fnAtLineStartSplitsAtAnyCutRow.holds Try.pinned (OpenSpec.ofChange fnAtLineStartSplitsAtAnyCutWrong)

/-- 'zzlaws_pkg_descriptor_b1.FnAtLineStartAfterALineStartIsAdded': WHATEVER THE INPUT: true; the input reads as it did. -/
def fnAtLineStartAfterALineStartIsAddedSpec : ChangeSpec := { name := "fnAtLineStartAfterALineStartIsAdded", fn := fun _ => fun
  | [d1, d2, d3, d4, d5, d6, d7, d8, d9] => { results := [.lit (.bool true)], args := [d1, d2, d3, d4, d5, d6, d7, d8, d9] }
  | _ => none }
def fnAtLineStartAfterALineStartIsAddedRow : OpenClaim := { program := "qxb6612677a", sum := "bee0c3d42ab595502b332393a482cf20097081bd0ecc2cb0dd82b1af7f5dd8a7", func := "example.com/sealwright/sealwright/zzlaws_pkg_descriptor_b1.FnAtLineStartAfterALineStartIsAdded", spec := "fnAtLineStartAfterALineStartIsAdded", apart := false }
def FnAtLineStartAfterALineStartIsAddedSaid : Prop := fnAtLineStartAfterALineStartIsAddedRow.holds Try.pinned (OpenSpec.ofChange fnAtLineStartAfterALineStartIsAddedSpec)

/-- ITS FALSE NEIGHBOUR: 'it returns false'. Refute it at one input. -/
def fnAtLineStartAfterALineStartIsAddedWrong : ChangeSpec := { name := "fnAtLineStartAfterALineStartIsAdded", fn := fun _ => fun
  | [d1, d2, d3, d4, d5, d6, d7, d8, d9] => { results := [.lit (.bool false)], args := [d1, d2, d3, d4, d5, d6, d7, d8, d9] }
  | _ => none }
def FnAtLineStartAfterALineStartIsAddedWrongFalsely : Prop := fnAtLineStartAfterALineStartIsAddedRow.holds Try.pinned (OpenSpec.ofChange fnAtLineStartAfterALineStartIsAddedWrong)

end Rows
end Go.Proofs.Qxb6612677a
