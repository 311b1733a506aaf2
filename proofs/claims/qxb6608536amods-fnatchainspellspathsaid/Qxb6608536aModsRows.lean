/-
  No cell of these rows narrows 'for every input' (looked for: loops, veiled, ifaces, maps, wideKeys, modest, calm, conditions, laid).
  DERIVED. THE GIVEN ROWS OF THIS SEAT. 2 by the template 'for every input the law returns true; each argument reads behind the call as it read before'; 0 by the template 'total and deterministic' (their statements: Qxb6608536aModsTotals.lean).
  GIVEN WITH THE SEED: the statements are not yours to turn. If you find one false, say at which input.
  Laid BY PROGRAM, IN A SANDBOX (cutbox-rows.mjs): the forced cells as the released guide's own fill.sh prints them over the translation 40abf8fad26b7176… (all of the seat's roots in one cut). By AI agents, Wed Nov 11 2026. No macro, syntax, notation, axiom, sorry.
-/
import Derived.Test.Qxb6608536aModsChecked
import GoSem.Claim
import GoSem.ClaimJoined
import GoSem.ClaimMapViews
import Derived.JoinedTies
import Derived.KernelRfl
namespace Go.Proofs.Qxb6608536aMods
/- THE CELL 'sum', in the pinned program and in every row, IS THE sha256 OF THE DUMP (.gsa) THAT Qxb6608536aModsProg.lean LOADS. Nothing in Lean hashes anything: it is a label: what it is worth is what the hold of that sum in a sandbox is worth. -/
noncomputable def Trym.pinned : Pinned := { name := "qxb6608536amods", sum := "40abf8fad26b71767a27b7b59df92965cb9748a38bcabaedbeeff17ab2c27eee", checked := Trym.checked }
namespace Rows
def none {H : Type} : Left H := { results := [], args := [] }

/-- 'zzlaws_internal_server_b1.FnPathErrorTextFollowsAt': WHATEVER THE INPUT: true; the input reads as it did. -/
def fnPathErrorTextFollowsAtSpec : ChangeSpec := { name := "fnPathErrorTextFollowsAt", fn := fun _ => fun
  | [d1, d2, d3] => { results := [.lit (.bool true)], args := [d1, d2, d3] }
  | _ => none }
def fnPathErrorTextFollowsAtRow : OpenClaim := { program := "qxb6608536amods", sum := "40abf8fad26b71767a27b7b59df92965cb9748a38bcabaedbeeff17ab2c27eee", func := "example.com/tideline/tideline/zzlaws_internal_server_b1.FnPathErrorTextFollowsAt", spec := "fnPathErrorTextFollowsAt", unfollowed := true, recurses := true, make := .lifted ["publicsums"], apart := false }
def FnPathErrorTextFollowsAtSaid : Prop := fnPathErrorTextFollowsAtRow.holds Trym.pinned (OpenSpec.ofChange fnPathErrorTextFollowsAtSpec)

/-- ITS FALSE NEIGHBOUR: 'it returns false'. Refute it at one input. -/
def fnPathErrorTextFollowsAtWrong : ChangeSpec := { name := "fnPathErrorTextFollowsAt", fn := fun _ => fun
  | [d1, d2, d3] => { results := [.lit (.bool false)], args := [d1, d2, d3] }
  | _ => none }
def FnPathErrorTextFollowsAtWrongFalsely : Prop := fnPathErrorTextFollowsAtRow.holds Trym.pinned (OpenSpec.ofChange fnPathErrorTextFollowsAtWrong)

/-- 'zzlaws_internal_server_b1.FnAtChainSpellsPath': WHATEVER THE INPUT: true; the input reads as it did. -/
def fnAtChainSpellsPathSpec : ChangeSpec := { name := "fnAtChainSpellsPath", fn := fun _ => fun
  | [d1, d2] => { results := [.lit (.bool true)], args := [d1, d2] }
  | _ => none }
def fnAtChainSpellsPathRow : OpenClaim := { program := "qxb6608536amods", sum := "40abf8fad26b71767a27b7b59df92965cb9748a38bcabaedbeeff17ab2c27eee", func := "example.com/tideline/tideline/zzlaws_internal_server_b1.FnAtChainSpellsPath", spec := "fnAtChainSpellsPath", make := .lifted ["publicsums"], apart := false }
def FnAtChainSpellsPathSaid : Prop := fnAtChainSpellsPathRow.holds Trym.pinned (OpenSpec.ofChange fnAtChainSpellsPathSpec)

/-- ITS FALSE NEIGHBOUR: 'it returns false'. Refute it at one input. -/
def fnAtChainSpellsPathWrong : ChangeSpec := { name := "fnAtChainSpellsPath", fn := fun _ => fun
  | [d1, d2] => { results := [.lit (.bool false)], args := [d1, d2] }
  | _ => none }
def FnAtChainSpellsPathWrongFalsely : Prop := fnAtChainSpellsPathRow.holds Trym.pinned (OpenSpec.ofChange fnAtChainSpellsPathWrong)

end Rows
end Go.Proofs.Qxb6608536aMods
