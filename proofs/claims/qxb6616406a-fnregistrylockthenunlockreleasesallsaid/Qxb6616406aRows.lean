/-
  No cell of these rows narrows 'for every input' (looked for: loops, veiled, ifaces, maps, wideKeys, modest, calm, conditions, laid).
  DERIVED. THE GIVEN ROWS OF THIS SEAT. 3 by the template 'for every input the law returns true; each argument reads behind the call as it read before'; 0 by the template 'total and deterministic' (their statements: Qxb6616406aTotals.lean).
  GIVEN WITH THE SEED: the statements are not yours to turn. If you find one false, say at which input.
  Laid BY PROGRAM, IN A SANDBOX (cutbox-rows.mjs): the forced cells as the released guide's own fill.sh prints them over the translation f58683a5e2f1dbfa… (all of the seat's roots in one cut). By AI agents, Wed Nov 11 2026. No macro, syntax, notation, axiom, sorry.
-/
import Derived.Test.Qxb6616406aChecked
import GoSem.Claim
import GoSem.ClaimJoined
import GoSem.ClaimMapViews
import Derived.JoinedTies
import Derived.KernelRfl
namespace Go.Proofs.Qxb6616406a
/- THE CELL 'sum', in the pinned program and in every row, IS THE sha256 OF THE DUMP (.gsa) THAT Qxb6616406aProg.lean LOADS. Nothing in Lean hashes anything: it is a label: what it is worth is what the hold of that sum in a sandbox is worth. -/
noncomputable def Try.pinned : Pinned := { name := "qxb6616406a", sum := "f58683a5e2f1dbfaf704ed57e9dc24bb915f8dae8dba5234f32bae553e03709c", checked := Try.checked }
namespace Rows
def none {H : Type} : Left H := { results := [], args := [] }

/-- 'zzlaws_root_b1.FnGrantExpiredFromItsInstantOnward': WHATEVER THE INPUT: true; the input reads as it did. -/
def fnGrantExpiredFromItsInstantOnwardSpec : ChangeSpec := { name := "fnGrantExpiredFromItsInstantOnward", fn := fun _ => fun
  | [d1, d2, d3, d4, d5] => { results := [.lit (.bool true)], args := [d1, d2, d3, d4, d5] }
  | _ => none }
def fnGrantExpiredFromItsInstantOnwardRow : OpenClaim := { program := "qxb6616406a", sum := "f58683a5e2f1dbfaf704ed57e9dc24bb915f8dae8dba5234f32bae553e03709c", func := "example.com/catalog-to-binding/catalog-to-binding/zzlaws_root_b1.FnGrantExpiredFromItsInstantOnward", spec := "fnGrantExpiredFromItsInstantOnward", apart := false }
def FnGrantExpiredFromItsInstantOnwardSaid : Prop := fnGrantExpiredFromItsInstantOnwardRow.holds Try.pinned (OpenSpec.ofChange fnGrantExpiredFromItsInstantOnwardSpec)

/-- ITS FALSE NEIGHBOUR: 'it returns false'. Refute it at one input. -/
def fnGrantExpiredFromItsInstantOnwardWrong : ChangeSpec := { name := "fnGrantExpiredFromItsInstantOnward", fn := fun _ => fun
  | [d1, d2, d3, d4, d5] => { results := [.lit (.bool false)], args := [d1, d2, d3, d4, d5] }
  | _ => none }
def FnGrantExpiredFromItsInstantOnwardWrongFalsely : Prop := fnGrantExpiredFromItsInstantOnwardRow.holds Try.pinned (OpenSpec.ofChange fnGrantExpiredFromItsInstantOnwardWrong)

/-- 'zzlaws_root_b1.FnGrantExpiryOrdersTwoInstants': WHATEVER THE INPUT: true; the input reads as it did. -/
def fnGrantExpiryOrdersTwoInstantsSpec : ChangeSpec := { name := "fnGrantExpiryOrdersTwoInstants", fn := fun _ => fun
  | [d1, d2, d3, d4] => { results := [.lit (.bool true)], args := [d1, d2, d3, d4] }
  | _ => none }
def fnGrantExpiryOrdersTwoInstantsRow : OpenClaim := { program := "qxb6616406a", sum := "f58683a5e2f1dbfaf704ed57e9dc24bb915f8dae8dba5234f32bae553e03709c", func := "example.com/catalog-to-binding/catalog-to-binding/zzlaws_root_b1.FnGrantExpiryOrdersTwoInstants", spec := "fnGrantExpiryOrdersTwoInstants", apart := false }
def FnGrantExpiryOrdersTwoInstantsSaid : Prop := fnGrantExpiryOrdersTwoInstantsRow.holds Try.pinned (OpenSpec.ofChange fnGrantExpiryOrdersTwoInstantsSpec)

/-- ITS FALSE NEIGHBOUR: 'it returns false'. Refute it at one input. -/
def fnGrantExpiryOrdersTwoInstantsWrong : ChangeSpec := { name := "fnGrantExpiryOrdersTwoInstants", fn := fun _ => fun
  | [d1, d2, d3, d4] => { results := [.lit (.bool false)], args := [d1, d2, d3, d4] }
  | _ => none }
def FnGrantExpiryOrdersTwoInstantsWrongFalsely : Prop := fnGrantExpiryOrdersTwoInstantsRow.holds Try.pinned (OpenSpec.ofChange fnGrantExpiryOrdersTwoInstantsWrong)

/-- 'zzlaws_root_b1.FnRegistryLockThenUnlockReleasesAll': WHATEVER THE INPUT: true; the input reads as it did. -/
def fnRegistryLockThenUnlockReleasesAllSpec : ChangeSpec := { name := "fnRegistryLockThenUnlockReleasesAll", fn := fun _ => fun
  | [d] => { results := [.lit (.bool true)], args := [d] }
  | _ => none }
def fnRegistryLockThenUnlockReleasesAllRow : OpenClaim := { program := "qxb6616406a", sum := "f58683a5e2f1dbfaf704ed57e9dc24bb915f8dae8dba5234f32bae553e03709c", func := "example.com/catalog-to-binding/catalog-to-binding/zzlaws_root_b1.FnRegistryLockThenUnlockReleasesAll", spec := "fnRegistryLockThenUnlockReleasesAll", inPlace := ["(*internal/sync.Mutex).Lock", "internal/race.Disable", "sync/atomic.CompareAndSwapInt32", "internal/race.Enable", "internal/race.Acquire", "(*internal/sync.Mutex).lockSlow", "internal/sync.runtime_canSpin", "internal/sync.runtime_doSpin", "internal/sync.throw", "internal/sync.runtime_nanotime", "internal/sync.runtime_SemacquireMutex", "sync/atomic.AddInt32", "(*internal/sync.Mutex).Unlock", "internal/race.ReleaseMerge", "(*internal/sync.Mutex).unlockSlow", "internal/sync.fatal", "internal/sync.runtime_Semrelease"], unfollowed := true, recurses := true, apart := false }
def FnRegistryLockThenUnlockReleasesAllSaid : Prop := fnRegistryLockThenUnlockReleasesAllRow.holds Try.pinned (OpenSpec.ofChange fnRegistryLockThenUnlockReleasesAllSpec)

/-- ITS FALSE NEIGHBOUR: 'it returns false'. Refute it at one input. -/
def fnRegistryLockThenUnlockReleasesAllWrong : ChangeSpec := { name := "fnRegistryLockThenUnlockReleasesAll", fn := fun _ => fun
  | [d] => { results := [.lit (.bool false)], args := [d] }
  | _ => none }
def FnRegistryLockThenUnlockReleasesAllWrongFalsely : Prop := fnRegistryLockThenUnlockReleasesAllRow.holds Try.pinned (OpenSpec.ofChange fnRegistryLockThenUnlockReleasesAllWrong)

end Rows
end Go.Proofs.Qxb6616406a
