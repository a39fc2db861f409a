/-
  No cell of these rows narrows 'for every input' (looked for: loops, veiled, ifaces, maps, wideKeys, modest, calm, conditions, laid).
  DERIVED. THE GIVEN ROWS OF THIS SEAT. 1 by the template 'for every input the law returns true; each argument reads behind the call as it read before'; 0 by the template 'total and deterministic' (their statements: Qxb6616558aTotals.lean).
  GIVEN WITH THE SEED: the statements are not yours to turn. If you find one false, say at which input.
  Laid BY PROGRAM, IN A SANDBOX (cutbox-rows.mjs): the forced cells as the released guide's own fill.sh prints them over the translation fd800ab4bb3301cc… (all of the seat's roots in one cut). By AI agents, Wed Nov 11 2026. No macro, syntax, notation, axiom, sorry.
-/
import Derived.Test.Qxb6616558aChecked
import GoSem.Claim
import GoSem.ClaimJoined
import GoSem.ClaimMapViews
import Derived.JoinedTies
import Derived.KernelRfl
namespace Go.Proofs.Qxb6616558a
/- THE CELL 'sum', in the pinned program and in every row, IS THE sha256 OF THE DUMP (.gsa) THAT Qxb6616558aProg.lean LOADS. Nothing in Lean hashes anything: it is a label: what it is worth is what the hold of that sum in a sandbox is worth. -/
noncomputable def Try.pinned : Pinned := { name := "qxb6616558a", sum := "fd800ab4bb3301ccceaef18763f1aa06c330ea69948a7ad80e9f47f002a9f11b", checked := Try.checked }
namespace Rows
def none {H : Type} : Left H := { results := [], args := [] }

/-- 'zzlaws_internal_decisionlog_b1.FnCommitRecordAppendOne': WHATEVER THE INPUT: true; the input reads as it did. -/
def fnCommitRecordAppendOneSpec : ChangeSpec := { name := "fnCommitRecordAppendOne", fn := fun _ => fun
  | [d1, d2, d3] => { results := [.lit (.bool true)], args := [d1, d2, d3] }
  | _ => none }
def fnCommitRecordAppendOneRow : OpenClaim := { program := "qxb6616558a", sum := "fd800ab4bb3301ccceaef18763f1aa06c330ea69948a7ad80e9f47f002a9f11b", func := "example.com/handfast/handfast/zzlaws_internal_decisionlog_b1.FnCommitRecordAppendOne", spec := "fnCommitRecordAppendOne", inPlace := ["internal/abi.NoEscape", "internal/bytealg.MakeNoZero"], apart := false }
def FnCommitRecordAppendOneSaid : Prop := fnCommitRecordAppendOneRow.holds Try.pinned (OpenSpec.ofChange fnCommitRecordAppendOneSpec)

/-- ITS FALSE NEIGHBOUR: 'it returns false'. Refute it at one input. -/
def fnCommitRecordAppendOneWrong : ChangeSpec := { name := "fnCommitRecordAppendOne", fn := fun _ => fun
  | [d1, d2, d3] => { results := [.lit (.bool false)], args := [d1, d2, d3] }
  | _ => none }
def FnCommitRecordAppendOneWrongFalsely : Prop := fnCommitRecordAppendOneRow.holds Try.pinned (OpenSpec.ofChange fnCommitRecordAppendOneWrong)

end Rows
end Go.Proofs.Qxb6616558a
