/-
  No cell of these rows narrows 'for every input' (looked for: loops, veiled, ifaces, maps, wideKeys, modest, calm, conditions, laid).
  DERIVED. THE GIVEN ROWS OF THIS SEAT. 3 by the template 'for every input the law returns true; each argument reads behind the call as it read before'; 0 by the template 'total and deterministic' (their statements: Qxb6613853aTotals.lean).
  GIVEN WITH THE SEED: the statements are not yours to turn. If you find one false, say at which input.
  Laid BY PROGRAM, IN A SANDBOX (cutbox-rows.mjs): the forced cells as the released guide's own fill.sh prints them over the translation cdb4e85b5871564d… (all of the seat's roots in one cut). By AI agents, Wed Nov 11 2026. No macro, syntax, notation, axiom, sorry.
-/
import Derived.Test.Qxb6613853aChecked
import GoSem.Claim
import GoSem.ClaimJoined
import GoSem.ClaimMapViews
import Derived.JoinedTies
import Derived.KernelRfl
namespace Go.Proofs.Qxb6613853a
/- THE CELL 'sum', in the pinned program and in every row, IS THE sha256 OF THE DUMP (.gsa) THAT Qxb6613853aProg.lean LOADS. Nothing in Lean hashes anything: it is a label: what it is worth is what the hold of that sum in a sandbox is worth. -/
noncomputable def Try.pinned : Pinned := { name := "qxb6613853a", sum := "cdb4e85b5871564dab3d9fb2fa074c26f6da08c62a3bb9774257c04ca7b50d33", checked := Try.checked }
namespace Rows
def none {H : Type} : Left H := { results := [], args := [] }

/-- 'zzlaws_internal_codec_b1.FnFailedReportsWhetherFailed': WHATEVER THE INPUT: true; the input reads as it did. -/
def fnFailedReportsWhetherFailedSpec : ChangeSpec := { name := "fnFailedReportsWhetherFailed", fn := fun _ => fun
  | [d1, d2] => { results := [.lit (.bool true)], args := [d1, d2] }
  | _ => none }
def fnFailedReportsWhetherFailedRow : OpenClaim := { program := "qxb6613853a", sum := "cdb4e85b5871564dab3d9fb2fa074c26f6da08c62a3bb9774257c04ca7b50d33", func := "example.com/knotwork/knotwork/zzlaws_internal_codec_b1.FnFailedReportsWhetherFailed", spec := "fnFailedReportsWhetherFailed", apart := false }
def FnFailedReportsWhetherFailedSaid : Prop := fnFailedReportsWhetherFailedRow.holds Try.pinned (OpenSpec.ofChange fnFailedReportsWhetherFailedSpec)

/-- ITS FALSE NEIGHBOUR: 'it returns false'. Refute it at one input. -/
def fnFailedReportsWhetherFailedWrong : ChangeSpec := { name := "fnFailedReportsWhetherFailed", fn := fun _ => fun
  | [d1, d2] => { results := [.lit (.bool false)], args := [d1, d2] }
  | _ => none }
def FnFailedReportsWhetherFailedWrongFalsely : Prop := fnFailedReportsWhetherFailedRow.holds Try.pinned (OpenSpec.ofChange fnFailedReportsWhetherFailedWrong)

/-- 'zzlaws_internal_codec_b1.FnFailIsFinalAndKeepsCallersBytes': WHATEVER THE INPUT: true; the input reads as it did. -/
def fnFailIsFinalAndKeepsCallersBytesSpec : ChangeSpec := { name := "fnFailIsFinalAndKeepsCallersBytes", fn := fun _ => fun
  | [d1, d2] => { results := [.lit (.bool true)], args := [d1, d2] }
  | _ => none }
def fnFailIsFinalAndKeepsCallersBytesRow : OpenClaim := { program := "qxb6613853a", sum := "cdb4e85b5871564dab3d9fb2fa074c26f6da08c62a3bb9774257c04ca7b50d33", func := "example.com/knotwork/knotwork/zzlaws_internal_codec_b1.FnFailIsFinalAndKeepsCallersBytes", spec := "fnFailIsFinalAndKeepsCallersBytes", apart := false }
def FnFailIsFinalAndKeepsCallersBytesSaid : Prop := fnFailIsFinalAndKeepsCallersBytesRow.holds Try.pinned (OpenSpec.ofChange fnFailIsFinalAndKeepsCallersBytesSpec)

/-- ITS FALSE NEIGHBOUR: 'it returns false'. Refute it at one input. -/
def fnFailIsFinalAndKeepsCallersBytesWrong : ChangeSpec := { name := "fnFailIsFinalAndKeepsCallersBytes", fn := fun _ => fun
  | [d1, d2] => { results := [.lit (.bool false)], args := [d1, d2] }
  | _ => none }
def FnFailIsFinalAndKeepsCallersBytesWrongFalsely : Prop := fnFailIsFinalAndKeepsCallersBytesRow.holds Try.pinned (OpenSpec.ofChange fnFailIsFinalAndKeepsCallersBytesWrong)

/-- 'zzlaws_internal_codec_b1.FnFailLeavesSiblingDecoder': WHATEVER THE INPUT: true; the input reads as it did. -/
def fnFailLeavesSiblingDecoderSpec : ChangeSpec := { name := "fnFailLeavesSiblingDecoder", fn := fun _ => fun
  | [d] => { results := [.lit (.bool true)], args := [d] }
  | _ => none }
def fnFailLeavesSiblingDecoderRow : OpenClaim := { program := "qxb6613853a", sum := "cdb4e85b5871564dab3d9fb2fa074c26f6da08c62a3bb9774257c04ca7b50d33", func := "example.com/knotwork/knotwork/zzlaws_internal_codec_b1.FnFailLeavesSiblingDecoder", spec := "fnFailLeavesSiblingDecoder", apart := false }
def FnFailLeavesSiblingDecoderSaid : Prop := fnFailLeavesSiblingDecoderRow.holds Try.pinned (OpenSpec.ofChange fnFailLeavesSiblingDecoderSpec)

/-- ITS FALSE NEIGHBOUR: 'it returns false'. Refute it at one input. -/
def fnFailLeavesSiblingDecoderWrong : ChangeSpec := { name := "fnFailLeavesSiblingDecoder", fn := fun _ => fun
  | [d] => { results := [.lit (.bool false)], args := [d] }
  | _ => none }
def FnFailLeavesSiblingDecoderWrongFalsely : Prop := fnFailLeavesSiblingDecoderRow.holds Try.pinned (OpenSpec.ofChange fnFailLeavesSiblingDecoderWrong)

end Rows
end Go.Proofs.Qxb6613853a
