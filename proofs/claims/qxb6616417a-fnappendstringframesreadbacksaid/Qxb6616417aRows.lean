/-
  No cell of these rows narrows 'for every input' (looked for: loops, veiled, ifaces, maps, wideKeys, modest, calm, conditions, laid).
  DERIVED. THE GIVEN ROWS OF THIS SEAT. 4 by the template 'for every input the law returns true; each argument reads behind the call as it read before'; 0 by the template 'total and deterministic' (their statements: Qxb6616417aTotals.lean).
  GIVEN WITH THE SEED: the statements are not yours to turn. If you find one false, say at which input.
  Laid BY PROGRAM, IN A SANDBOX (cutbox-rows.mjs): the forced cells as the released guide's own fill.sh prints them over the translation ab933b37aac5636e… (all of the seat's roots in one cut). By AI agents, Wed Nov 11 2026. No macro, syntax, notation, axiom, sorry.
-/
import Derived.Test.Qxb6616417aChecked
import GoSem.Claim
import GoSem.ClaimJoined
import GoSem.ClaimMapViews
import Derived.JoinedTies
import Derived.KernelRfl
namespace Go.Proofs.Qxb6616417a
/- THE CELL 'sum', in the pinned program and in every row, IS THE sha256 OF THE DUMP (.gsa) THAT Qxb6616417aProg.lean LOADS. Nothing in Lean hashes anything: it is a label: what it is worth is what the hold of that sum in a sandbox is worth. -/
noncomputable def Try.pinned : Pinned := { name := "qxb6616417a", sum := "ab933b37aac5636e796ee79c0d52052c50bcc911b39a402328e527295c039c07", checked := Try.checked }
namespace Rows
def none {H : Type} : Left H := { results := [], args := [] }

/-- 'zzlaws_internal_graph_b1.FnOwnNameCut': WHATEVER THE INPUT: true; the input reads as it did. -/
def fnOwnNameCutSpec : ChangeSpec := { name := "fnOwnNameCut", fn := fun _ => fun
  | [d1, d2] => { results := [.lit (.bool true)], args := [d1, d2] }
  | _ => none }
def fnOwnNameCutRow : OpenClaim := { program := "qxb6616417a", sum := "ab933b37aac5636e796ee79c0d52052c50bcc911b39a402328e527295c039c07", func := "example.com/symbolwalk/symbolwalk/zzlaws_internal_graph_b1.FnOwnNameCut", spec := "fnOwnNameCut", apart := false }
def FnOwnNameCutSaid : Prop := fnOwnNameCutRow.holds Try.pinned (OpenSpec.ofChange fnOwnNameCutSpec)

/-- ITS FALSE NEIGHBOUR: 'it returns false'. Refute it at one input. -/
def fnOwnNameCutWrong : ChangeSpec := { name := "fnOwnNameCut", fn := fun _ => fun
  | [d1, d2] => { results := [.lit (.bool false)], args := [d1, d2] }
  | _ => none }
def FnOwnNameCutWrongFalsely : Prop := fnOwnNameCutRow.holds Try.pinned (OpenSpec.ofChange fnOwnNameCutWrong)

/-- 'zzlaws_internal_graph_b1.FnOwnNameUnderQualifier': WHATEVER THE INPUT: true; the input reads as it did. -/
def fnOwnNameUnderQualifierSpec : ChangeSpec := { name := "fnOwnNameUnderQualifier", fn := fun _ => fun
  | [d1, d2] => { results := [.lit (.bool true)], args := [d1, d2] }
  | _ => none }
def fnOwnNameUnderQualifierRow : OpenClaim := { program := "qxb6616417a", sum := "ab933b37aac5636e796ee79c0d52052c50bcc911b39a402328e527295c039c07", func := "example.com/symbolwalk/symbolwalk/zzlaws_internal_graph_b1.FnOwnNameUnderQualifier", spec := "fnOwnNameUnderQualifier", apart := false }
def FnOwnNameUnderQualifierSaid : Prop := fnOwnNameUnderQualifierRow.holds Try.pinned (OpenSpec.ofChange fnOwnNameUnderQualifierSpec)

/-- ITS FALSE NEIGHBOUR: 'it returns false'. Refute it at one input. -/
def fnOwnNameUnderQualifierWrong : ChangeSpec := { name := "fnOwnNameUnderQualifier", fn := fun _ => fun
  | [d1, d2] => { results := [.lit (.bool false)], args := [d1, d2] }
  | _ => none }
def FnOwnNameUnderQualifierWrongFalsely : Prop := fnOwnNameUnderQualifierRow.holds Try.pinned (OpenSpec.ofChange fnOwnNameUnderQualifierWrong)

/-- 'zzlaws_internal_graph_b1.FnAppendStringFramesReadBack': WHATEVER THE INPUT: true; the input reads as it did. -/
def fnAppendStringFramesReadBackSpec : ChangeSpec := { name := "fnAppendStringFramesReadBack", fn := fun _ => fun
  | [d1, d2, d3] => { results := [.lit (.bool true)], args := [d1, d2, d3] }
  | _ => none }
def fnAppendStringFramesReadBackRow : OpenClaim := { program := "qxb6616417a", sum := "ab933b37aac5636e796ee79c0d52052c50bcc911b39a402328e527295c039c07", func := "example.com/symbolwalk/symbolwalk/zzlaws_internal_graph_b1.FnAppendStringFramesReadBack", spec := "fnAppendStringFramesReadBack", apart := false }
def FnAppendStringFramesReadBackSaid : Prop := fnAppendStringFramesReadBackRow.holds Try.pinned (OpenSpec.ofChange fnAppendStringFramesReadBackSpec)

/-- ITS FALSE NEIGHBOUR: 'it returns false'. Refute it at one input. -/
def fnAppendStringFramesReadBackWrong : ChangeSpec := { name := "fnAppendStringFramesReadBack", fn := fun _ => fun
  | [d1, d2, d3] => { results := [.lit (.bool false)], args := [d1, d2, d3] }
  | _ => none }
def FnAppendStringFramesReadBackWrongFalsely : Prop := fnAppendStringFramesReadBackRow.holds Try.pinned (OpenSpec.ofChange fnAppendStringFramesReadBackWrong)

/-- 'zzlaws_internal_graph_b1.FnAppendStringIndependentOfRecord': WHATEVER THE INPUT: true; the input reads as it did. -/
def fnAppendStringIndependentOfRecordSpec : ChangeSpec := { name := "fnAppendStringIndependentOfRecord", fn := fun _ => fun
  | [d1, d2] => { results := [.lit (.bool true)], args := [d1, d2] }
  | _ => none }
def fnAppendStringIndependentOfRecordRow : OpenClaim := { program := "qxb6616417a", sum := "ab933b37aac5636e796ee79c0d52052c50bcc911b39a402328e527295c039c07", func := "example.com/symbolwalk/symbolwalk/zzlaws_internal_graph_b1.FnAppendStringIndependentOfRecord", spec := "fnAppendStringIndependentOfRecord", apart := false }
def FnAppendStringIndependentOfRecordSaid : Prop := fnAppendStringIndependentOfRecordRow.holds Try.pinned (OpenSpec.ofChange fnAppendStringIndependentOfRecordSpec)

/-- ITS FALSE NEIGHBOUR: 'it returns false'. Refute it at one input. -/
def fnAppendStringIndependentOfRecordWrong : ChangeSpec := { name := "fnAppendStringIndependentOfRecord", fn := fun _ => fun
  | [d1, d2] => { results := [.lit (.bool false)], args := [d1, d2] }
  | _ => none }
def FnAppendStringIndependentOfRecordWrongFalsely : Prop := fnAppendStringIndependentOfRecordRow.holds Try.pinned (OpenSpec.ofChange fnAppendStringIndependentOfRecordWrong)

end Rows
end Go.Proofs.Qxb6616417a
