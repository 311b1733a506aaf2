/-
  No cell of these rows narrows 'for every input' (looked for: loops, veiled, ifaces, maps, wideKeys, modest, calm, conditions, laid).
  DERIVED. THE GIVEN ROWS OF THIS SEAT. 5 by the template 'for every input the law returns true; each argument reads behind the call as it read before'; 0 by the template 'total and deterministic' (their statements: Qxb6605604aModsTotals.lean).
  GIVEN WITH THE SEED: the statements are not yours to turn. If you find one false, say at which input.
  Laid BY PROGRAM, IN A SANDBOX (cutbox-rows.mjs): the forced cells as the released guide's own fill.sh prints them over the translation d2474629b2c2bb85… (all of the seat's roots in one cut). By AI agents, Wed Nov 11 2026. No macro, syntax, notation, axiom, sorry.
-/
import Derived.Test.Qxb6605604aModsChecked
import GoSem.Claim
import GoSem.ClaimJoined
import GoSem.ClaimMapViews
import Derived.JoinedTies
import Derived.KernelRfl
namespace Go.Proofs.Qxb6605604aMods
/- THE CELL 'sum', in the pinned program and in every row, IS THE sha256 OF THE DUMP (.gsa) THAT Qxb6605604aModsProg.lean LOADS. Nothing in Lean hashes anything: it is a label: what it is worth is what the hold of that sum in a sandbox is worth. -/
noncomputable def Trym.pinned : Pinned := { name := "qxb6605604amods", sum := "d2474629b2c2bb85e057240c7997885ba820d9bf54fc5b51a722738cdccad4e6", checked := Trym.checked }
namespace Rows
def none {H : Type} : Left H := { results := [], args := [] }

/-- 'zzlaws_pull_b1.FnChildPathSplitsBackAtLastSlash': WHATEVER THE INPUT: true; the input reads as it did. -/
def fnChildPathSplitsBackAtLastSlashSpec : ChangeSpec := { name := "fnChildPathSplitsBackAtLastSlash", fn := fun _ => fun
  | [d1, d2] => { results := [.lit (.bool true)], args := [d1, d2] }
  | _ => none }
def fnChildPathSplitsBackAtLastSlashRow : OpenClaim := { program := "qxb6605604amods", sum := "d2474629b2c2bb85e057240c7997885ba820d9bf54fc5b51a722738cdccad4e6", func := "example.com/stowage/stowage/zzlaws_pull_b1.FnChildPathSplitsBackAtLastSlash", spec := "fnChildPathSplitsBackAtLastSlash", make := .lifted ["publicsums"], apart := false }
def FnChildPathSplitsBackAtLastSlashSaid : Prop := fnChildPathSplitsBackAtLastSlashRow.holds Trym.pinned (OpenSpec.ofChange fnChildPathSplitsBackAtLastSlashSpec)

/-- ITS FALSE NEIGHBOUR: 'it returns false'. Refute it at one input. -/
def fnChildPathSplitsBackAtLastSlashWrong : ChangeSpec := { name := "fnChildPathSplitsBackAtLastSlash", fn := fun _ => fun
  | [d1, d2] => { results := [.lit (.bool false)], args := [d1, d2] }
  | _ => none }
def FnChildPathSplitsBackAtLastSlashWrongFalsely : Prop := fnChildPathSplitsBackAtLastSlashRow.holds Trym.pinned (OpenSpec.ofChange fnChildPathSplitsBackAtLastSlashWrong)

/-- 'zzlaws_pull_b1.FnChildPathFoldIsSlashJoin': WHATEVER THE INPUT: true; the input reads as it did. -/
def fnChildPathFoldIsSlashJoinSpec : ChangeSpec := { name := "fnChildPathFoldIsSlashJoin", fn := fun _ => fun
  | [d] => { results := [.lit (.bool true)], args := [d] }
  | _ => none }
def fnChildPathFoldIsSlashJoinRow : OpenClaim := { program := "qxb6605604amods", sum := "d2474629b2c2bb85e057240c7997885ba820d9bf54fc5b51a722738cdccad4e6", func := "example.com/stowage/stowage/zzlaws_pull_b1.FnChildPathFoldIsSlashJoin", spec := "fnChildPathFoldIsSlashJoin", make := .lifted ["publicsums"], apart := false }
def FnChildPathFoldIsSlashJoinSaid : Prop := fnChildPathFoldIsSlashJoinRow.holds Trym.pinned (OpenSpec.ofChange fnChildPathFoldIsSlashJoinSpec)

/-- ITS FALSE NEIGHBOUR: 'it returns false'. Refute it at one input. -/
def fnChildPathFoldIsSlashJoinWrong : ChangeSpec := { name := "fnChildPathFoldIsSlashJoin", fn := fun _ => fun
  | [d] => { results := [.lit (.bool false)], args := [d] }
  | _ => none }
def FnChildPathFoldIsSlashJoinWrongFalsely : Prop := fnChildPathFoldIsSlashJoinRow.holds Trym.pinned (OpenSpec.ofChange fnChildPathFoldIsSlashJoinWrong)

/-- 'zzlaws_pull_b1.FnOwnLastCallWinsAndKeepsLayerOrder': WHATEVER THE INPUT: true; the input reads as it did. -/
def fnOwnLastCallWinsAndKeepsLayerOrderSpec : ChangeSpec := { name := "fnOwnLastCallWinsAndKeepsLayerOrder", fn := fun _ => fun
  | [d1, d2, d3, d4, d5, d6, d7, d8] => { results := [.lit (.bool true)], args := [d1, d2, d3, d4, d5, d6, d7, d8] }
  | _ => none }
def fnOwnLastCallWinsAndKeepsLayerOrderRow : OpenClaim := { program := "qxb6605604amods", sum := "d2474629b2c2bb85e057240c7997885ba820d9bf54fc5b51a722738cdccad4e6", func := "example.com/stowage/stowage/zzlaws_pull_b1.FnOwnLastCallWinsAndKeepsLayerOrder", spec := "fnOwnLastCallWinsAndKeepsLayerOrder", make := .lifted ["publicsums"], apart := false }
def FnOwnLastCallWinsAndKeepsLayerOrderSaid : Prop := fnOwnLastCallWinsAndKeepsLayerOrderRow.holds Trym.pinned (OpenSpec.ofChange fnOwnLastCallWinsAndKeepsLayerOrderSpec)

/-- ITS FALSE NEIGHBOUR: 'it returns false'. Refute it at one input. -/
def fnOwnLastCallWinsAndKeepsLayerOrderWrong : ChangeSpec := { name := "fnOwnLastCallWinsAndKeepsLayerOrder", fn := fun _ => fun
  | [d1, d2, d3, d4, d5, d6, d7, d8] => { results := [.lit (.bool false)], args := [d1, d2, d3, d4, d5, d6, d7, d8] }
  | _ => none }
def FnOwnLastCallWinsAndKeepsLayerOrderWrongFalsely : Prop := fnOwnLastCallWinsAndKeepsLayerOrderRow.holds Trym.pinned (OpenSpec.ofChange fnOwnLastCallWinsAndKeepsLayerOrderWrong)

/-- 'zzlaws_pull_b1.FnMergedModeBySidesChanged': WHATEVER THE INPUT: true; the input reads as it did. -/
def fnMergedModeBySidesChangedSpec : ChangeSpec := { name := "fnMergedModeBySidesChanged", fn := fun _ => fun
  | [d1, d2, d3] => { results := [.lit (.bool true)], args := [d1, d2, d3] }
  | _ => none }
def fnMergedModeBySidesChangedRow : OpenClaim := { program := "qxb6605604amods", sum := "d2474629b2c2bb85e057240c7997885ba820d9bf54fc5b51a722738cdccad4e6", func := "example.com/stowage/stowage/zzlaws_pull_b1.FnMergedModeBySidesChanged", spec := "fnMergedModeBySidesChanged", make := .lifted ["publicsums"], apart := false }
def FnMergedModeBySidesChangedSaid : Prop := fnMergedModeBySidesChangedRow.holds Trym.pinned (OpenSpec.ofChange fnMergedModeBySidesChangedSpec)

/-- ITS FALSE NEIGHBOUR: 'it returns false'. Refute it at one input. -/
def fnMergedModeBySidesChangedWrong : ChangeSpec := { name := "fnMergedModeBySidesChanged", fn := fun _ => fun
  | [d1, d2, d3] => { results := [.lit (.bool false)], args := [d1, d2, d3] }
  | _ => none }
def FnMergedModeBySidesChangedWrongFalsely : Prop := fnMergedModeBySidesChangedRow.holds Trym.pinned (OpenSpec.ofChange fnMergedModeBySidesChangedWrong)

/-- 'zzlaws_pull_b1.FnMergedModeSymmetricAndKeepsOldOnlyUnchanged': WHATEVER THE INPUT: true; the input reads as it did. -/
def fnMergedModeSymmetricAndKeepsOldOnlyUnchangedSpec : ChangeSpec := { name := "fnMergedModeSymmetricAndKeepsOldOnlyUnchanged", fn := fun _ => fun
  | [d1, d2, d3] => { results := [.lit (.bool true)], args := [d1, d2, d3] }
  | _ => none }
def fnMergedModeSymmetricAndKeepsOldOnlyUnchangedRow : OpenClaim := { program := "qxb6605604amods", sum := "d2474629b2c2bb85e057240c7997885ba820d9bf54fc5b51a722738cdccad4e6", func := "example.com/stowage/stowage/zzlaws_pull_b1.FnMergedModeSymmetricAndKeepsOldOnlyUnchanged", spec := "fnMergedModeSymmetricAndKeepsOldOnlyUnchanged", make := .lifted ["publicsums"], apart := false }
def FnMergedModeSymmetricAndKeepsOldOnlyUnchangedSaid : Prop := fnMergedModeSymmetricAndKeepsOldOnlyUnchangedRow.holds Trym.pinned (OpenSpec.ofChange fnMergedModeSymmetricAndKeepsOldOnlyUnchangedSpec)

/-- ITS FALSE NEIGHBOUR: 'it returns false'. Refute it at one input. -/
def fnMergedModeSymmetricAndKeepsOldOnlyUnchangedWrong : ChangeSpec := { name := "fnMergedModeSymmetricAndKeepsOldOnlyUnchanged", fn := fun _ => fun
  | [d1, d2, d3] => { results := [.lit (.bool false)], args := [d1, d2, d3] }
  | _ => none }
def FnMergedModeSymmetricAndKeepsOldOnlyUnchangedWrongFalsely : Prop := fnMergedModeSymmetricAndKeepsOldOnlyUnchangedRow.holds Trym.pinned (OpenSpec.ofChange fnMergedModeSymmetricAndKeepsOldOnlyUnchangedWrong)

end Rows
end Go.Proofs.Qxb6605604aMods
