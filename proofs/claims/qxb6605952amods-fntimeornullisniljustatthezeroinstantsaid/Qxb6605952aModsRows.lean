/-
  No cell of these rows narrows 'for every input' (looked for: loops, veiled, ifaces, maps, wideKeys, modest, calm, conditions, laid).
  DERIVED. THE GIVEN ROWS OF THIS SEAT. 2 by the template 'for every input the law returns true; each argument reads behind the call as it read before'; 0 by the template 'total and deterministic' (their statements: Qxb6605952aModsTotals.lean).
  GIVEN WITH THE SEED: the statements are not yours to turn. If you find one false, say at which input.
  Laid BY PROGRAM, IN A SANDBOX (cutbox-rows.mjs): the forced cells as the released guide's own fill.sh prints them over the translation d9da3324d0dbe754… (all of the seat's roots in one cut). By AI agents, Wed Nov 11 2026. No macro, syntax, notation, axiom, sorry.
-/
import Derived.Test.Qxb6605952aModsChecked
import GoSem.Claim
import GoSem.ClaimJoined
import GoSem.ClaimMapViews
import Derived.JoinedTies
import Derived.KernelRfl
namespace Go.Proofs.Qxb6605952aMods
/- THE CELL 'sum', in the pinned program and in every row, IS THE sha256 OF THE DUMP (.gsa) THAT Qxb6605952aModsProg.lean LOADS. Nothing in Lean hashes anything: it is a label: what it is worth is what the hold of that sum in a sandbox is worth. -/
noncomputable def Trym.pinned : Pinned := { name := "qxb6605952amods", sum := "d9da3324d0dbe754b8064623ca606edde6876b155d8bc21595c1e05a6fc23a5b", checked := Trym.checked }
namespace Rows
def none {H : Type} : Left H := { results := [], args := [] }

/-- 'zzlaws_hub_b1.FnTimeOrNullIsNilJustAtTheZeroInstant': WHATEVER THE INPUT: true; the input reads as it did. -/
def fnTimeOrNullIsNilJustAtTheZeroInstantSpec : ChangeSpec := { name := "fnTimeOrNullIsNilJustAtTheZeroInstant", fn := fun _ => fun
  | [d] => { results := [.lit (.bool true)], args := [d] }
  | _ => none }
def fnTimeOrNullIsNilJustAtTheZeroInstantRow : OpenClaim := { program := "qxb6605952amods", sum := "d9da3324d0dbe754b8064623ca606edde6876b155d8bc21595c1e05a6fc23a5b", func := "example.com/signalbox/signalbox/zzlaws_hub_b1.FnTimeOrNullIsNilJustAtTheZeroInstant", spec := "fnTimeOrNullIsNilJustAtTheZeroInstant", make := .lifted ["publicsums"], apart := false }
def FnTimeOrNullIsNilJustAtTheZeroInstantSaid : Prop := fnTimeOrNullIsNilJustAtTheZeroInstantRow.holds Trym.pinned (OpenSpec.ofChange fnTimeOrNullIsNilJustAtTheZeroInstantSpec)

/-- ITS FALSE NEIGHBOUR: 'it returns false'. Refute it at one input. -/
def fnTimeOrNullIsNilJustAtTheZeroInstantWrong : ChangeSpec := { name := "fnTimeOrNullIsNilJustAtTheZeroInstant", fn := fun _ => fun
  | [d] => { results := [.lit (.bool false)], args := [d] }
  | _ => none }
def FnTimeOrNullIsNilJustAtTheZeroInstantWrongFalsely : Prop := fnTimeOrNullIsNilJustAtTheZeroInstantRow.holds Trym.pinned (OpenSpec.ofChange fnTimeOrNullIsNilJustAtTheZeroInstantWrong)

/-- 'zzlaws_hub_b1.FnTimeOrNullHandsAFreshPointerEachCall': WHATEVER THE INPUT: true; the input reads as it did. -/
def fnTimeOrNullHandsAFreshPointerEachCallSpec : ChangeSpec := { name := "fnTimeOrNullHandsAFreshPointerEachCall", fn := fun _ => fun
  | [d] => { results := [.lit (.bool true)], args := [d] }
  | _ => none }
def fnTimeOrNullHandsAFreshPointerEachCallRow : OpenClaim := { program := "qxb6605952amods", sum := "d9da3324d0dbe754b8064623ca606edde6876b155d8bc21595c1e05a6fc23a5b", func := "example.com/signalbox/signalbox/zzlaws_hub_b1.FnTimeOrNullHandsAFreshPointerEachCall", spec := "fnTimeOrNullHandsAFreshPointerEachCall", make := .lifted ["publicsums"], apart := false }
def FnTimeOrNullHandsAFreshPointerEachCallSaid : Prop := fnTimeOrNullHandsAFreshPointerEachCallRow.holds Trym.pinned (OpenSpec.ofChange fnTimeOrNullHandsAFreshPointerEachCallSpec)

/-- ITS FALSE NEIGHBOUR: 'it returns false'. Refute it at one input. -/
def fnTimeOrNullHandsAFreshPointerEachCallWrong : ChangeSpec := { name := "fnTimeOrNullHandsAFreshPointerEachCall", fn := fun _ => fun
  | [d] => { results := [.lit (.bool false)], args := [d] }
  | _ => none }
def FnTimeOrNullHandsAFreshPointerEachCallWrongFalsely : Prop := fnTimeOrNullHandsAFreshPointerEachCallRow.holds Trym.pinned (OpenSpec.ofChange fnTimeOrNullHandsAFreshPointerEachCallWrong)

end Rows
end Go.Proofs.Qxb6605952aMods
