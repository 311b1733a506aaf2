/-
  NARROWER THAN 'FOR EVERY INPUT', by the rows' own cells (each row's printed sentence says how): FnHashLaysOutEveryEntryOnce: maps · FnHashTwiceAppendsInTurn: maps.
  DERIVED. THE GIVEN ROWS OF THIS SEAT. 4 by the template 'for every input the law returns true; each argument reads behind the call as it read before'; 0 by the template 'total and deterministic' (their statements: Qxb6605622aModsTotals.lean).
  GIVEN WITH THE SEED: the statements are not yours to turn. If you find one false, say at which input.
  Laid BY PROGRAM, IN A SANDBOX (cutbox-rows.mjs): the forced cells as the released guide's own fill.sh prints them over the translation a1edd2619645586b… (all of the seat's roots in one cut). By AI agents, Wed Nov 11 2026. No macro, syntax, notation, axiom, sorry.
-/
import Derived.Test.Qxb6605622aModsChecked
import GoSem.Claim
import GoSem.ClaimJoined
import GoSem.ClaimMapViews
import Derived.JoinedTies
import Derived.KernelRfl
namespace Go.Proofs.Qxb6605622aMods
/- THE CELL 'sum', in the pinned program and in every row, IS THE sha256 OF THE DUMP (.gsa) THAT Qxb6605622aModsProg.lean LOADS. Nothing in Lean hashes anything: it is a label: what it is worth is what the hold of that sum in a sandbox is worth. -/
noncomputable def Trym.pinned : Pinned := { name := "qxb6605622amods", sum := "a1edd2619645586bdb05577984654264aae43e2ec06ecb4fe0fa29d9a412e248", checked := Trym.checked }
namespace Rows
def none {H : Type} : Left H := { results := [], args := [] }

/-- 'zzlaws_pkg_blackboard_b1.FnHashLaysOutEveryEntryOnce': WHATEVER THE INPUT: true; the input reads as it did. -/
def fnHashLaysOutEveryEntryOnceSpec : ChangeSpec := { name := "fnHashLaysOutEveryEntryOnce", fn := fun _ => fun
  | [d1, d2] => { results := [.lit (.bool true)], args := [d1, d2] }
  | _ => none }
def fnHashLaysOutEveryEntryOnceRow : OpenClaim := { program := "qxb6605622amods", sum := "a1edd2619645586bdb05577984654264aae43e2ec06ecb4fe0fa29d9a412e248", func := "example.com/oppdrag/oppdrag/zzlaws_pkg_blackboard_b1.FnHashLaysOutEveryEntryOnce", spec := "fnHashLaysOutEveryEntryOnce", maps := true, make := .lifted ["publicsums"], apart := false }
def FnHashLaysOutEveryEntryOnceSaid : Prop := fnHashLaysOutEveryEntryOnceRow.holds Trym.pinned (OpenSpec.ofChange fnHashLaysOutEveryEntryOnceSpec)

/-- ITS FALSE NEIGHBOUR: 'it returns false'. Refute it at one input. -/
def fnHashLaysOutEveryEntryOnceWrong : ChangeSpec := { name := "fnHashLaysOutEveryEntryOnce", fn := fun _ => fun
  | [d1, d2] => { results := [.lit (.bool false)], args := [d1, d2] }
  | _ => none }
def FnHashLaysOutEveryEntryOnceWrongFalsely : Prop := fnHashLaysOutEveryEntryOnceRow.holds Trym.pinned (OpenSpec.ofChange fnHashLaysOutEveryEntryOnceWrong)

/-- 'zzlaws_pkg_blackboard_b1.FnHashTwiceAppendsInTurn': WHATEVER THE INPUT: true; the input reads as it did. -/
def fnHashTwiceAppendsInTurnSpec : ChangeSpec := { name := "fnHashTwiceAppendsInTurn", fn := fun _ => fun
  | [d1, d2, d3] => { results := [.lit (.bool true)], args := [d1, d2, d3] }
  | _ => none }
def fnHashTwiceAppendsInTurnRow : OpenClaim := { program := "qxb6605622amods", sum := "a1edd2619645586bdb05577984654264aae43e2ec06ecb4fe0fa29d9a412e248", func := "example.com/oppdrag/oppdrag/zzlaws_pkg_blackboard_b1.FnHashTwiceAppendsInTurn", spec := "fnHashTwiceAppendsInTurn", maps := true, make := .lifted ["publicsums"], apart := false }
def FnHashTwiceAppendsInTurnSaid : Prop := fnHashTwiceAppendsInTurnRow.holds Trym.pinned (OpenSpec.ofChange fnHashTwiceAppendsInTurnSpec)

/-- ITS FALSE NEIGHBOUR: 'it returns false'. Refute it at one input. -/
def fnHashTwiceAppendsInTurnWrong : ChangeSpec := { name := "fnHashTwiceAppendsInTurn", fn := fun _ => fun
  | [d1, d2, d3] => { results := [.lit (.bool false)], args := [d1, d2, d3] }
  | _ => none }
def FnHashTwiceAppendsInTurnWrongFalsely : Prop := fnHashTwiceAppendsInTurnRow.holds Trym.pinned (OpenSpec.ofChange fnHashTwiceAppendsInTurnWrong)

/-- 'zzlaws_pkg_blackboard_b1.FnRememberHoldsTheLastOfEachStripped': WHATEVER THE INPUT: true; the input reads as it did. -/
def fnRememberHoldsTheLastOfEachStrippedSpec : ChangeSpec := { name := "fnRememberHoldsTheLastOfEachStripped", fn := fun _ => fun
  | [d1, d2] => { results := [.lit (.bool true)], args := [d1, d2] }
  | _ => none }
def fnRememberHoldsTheLastOfEachStrippedRow : OpenClaim := { program := "qxb6605622amods", sum := "a1edd2619645586bdb05577984654264aae43e2ec06ecb4fe0fa29d9a412e248", func := "example.com/oppdrag/oppdrag/zzlaws_pkg_blackboard_b1.FnRememberHoldsTheLastOfEachStripped", spec := "fnRememberHoldsTheLastOfEachStripped", inPlace := ["(*internal/sync.Mutex).Lock", "internal/race.Disable", "sync/atomic.CompareAndSwapInt32", "internal/race.Enable", "internal/race.Acquire", "(*internal/sync.Mutex).lockSlow", "internal/sync.runtime_canSpin", "internal/sync.runtime_doSpin", "internal/sync.throw", "internal/sync.runtime_nanotime", "internal/sync.runtime_SemacquireMutex", "sync/atomic.AddInt32", "(*internal/sync.Mutex).Unlock", "internal/race.ReleaseMerge", "(*internal/sync.Mutex).unlockSlow", "internal/sync.fatal", "internal/sync.runtime_Semrelease"], make := .lifted ["publicsums"], apart := false }
def FnRememberHoldsTheLastOfEachStrippedSaid : Prop := fnRememberHoldsTheLastOfEachStrippedRow.holds Trym.pinned (OpenSpec.ofChange fnRememberHoldsTheLastOfEachStrippedSpec)

/-- ITS FALSE NEIGHBOUR: 'it returns false'. Refute it at one input. -/
def fnRememberHoldsTheLastOfEachStrippedWrong : ChangeSpec := { name := "fnRememberHoldsTheLastOfEachStripped", fn := fun _ => fun
  | [d1, d2] => { results := [.lit (.bool false)], args := [d1, d2] }
  | _ => none }
def FnRememberHoldsTheLastOfEachStrippedWrongFalsely : Prop := fnRememberHoldsTheLastOfEachStrippedRow.holds Trym.pinned (OpenSpec.ofChange fnRememberHoldsTheLastOfEachStrippedWrong)

/-- 'zzlaws_pkg_blackboard_b1.FnRememberForgetsTheOldestFirst': WHATEVER THE INPUT: true; the input reads as it did. -/
def fnRememberForgetsTheOldestFirstSpec : ChangeSpec := { name := "fnRememberForgetsTheOldestFirst", fn := fun _ => fun
  | [d1, d2] => { results := [.lit (.bool true)], args := [d1, d2] }
  | _ => none }
def fnRememberForgetsTheOldestFirstRow : OpenClaim := { program := "qxb6605622amods", sum := "a1edd2619645586bdb05577984654264aae43e2ec06ecb4fe0fa29d9a412e248", func := "example.com/oppdrag/oppdrag/zzlaws_pkg_blackboard_b1.FnRememberForgetsTheOldestFirst", spec := "fnRememberForgetsTheOldestFirst", inPlace := ["(*internal/sync.Mutex).Lock", "internal/race.Disable", "sync/atomic.CompareAndSwapInt32", "internal/race.Enable", "internal/race.Acquire", "(*internal/sync.Mutex).lockSlow", "internal/sync.runtime_canSpin", "internal/sync.runtime_doSpin", "internal/sync.throw", "internal/sync.runtime_nanotime", "internal/sync.runtime_SemacquireMutex", "sync/atomic.AddInt32", "(*internal/sync.Mutex).Unlock", "internal/race.ReleaseMerge", "(*internal/sync.Mutex).unlockSlow", "internal/sync.fatal", "internal/sync.runtime_Semrelease"], make := .lifted ["publicsums"], apart := false }
def FnRememberForgetsTheOldestFirstSaid : Prop := fnRememberForgetsTheOldestFirstRow.holds Trym.pinned (OpenSpec.ofChange fnRememberForgetsTheOldestFirstSpec)

/-- ITS FALSE NEIGHBOUR: 'it returns false'. Refute it at one input. -/
def fnRememberForgetsTheOldestFirstWrong : ChangeSpec := { name := "fnRememberForgetsTheOldestFirst", fn := fun _ => fun
  | [d1, d2] => { results := [.lit (.bool false)], args := [d1, d2] }
  | _ => none }
def FnRememberForgetsTheOldestFirstWrongFalsely : Prop := fnRememberForgetsTheOldestFirstRow.holds Trym.pinned (OpenSpec.ofChange fnRememberForgetsTheOldestFirstWrong)

end Rows
end Go.Proofs.Qxb6605622aMods
