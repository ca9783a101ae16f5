/-
  No cell of these rows narrows 'for every input' (looked for: loops, veiled, ifaces, maps, wideKeys, modest, calm, conditions, laid).
  DERIVED. THE GIVEN ROWS OF THIS SEAT. 3 by the template 'for every input the law returns true; each argument reads behind the call as it read before'; 0 by the template 'total and deterministic' (their statements: Qxb6603485aTotals.lean).
  GIVEN WITH THE SEED: the statements are not yours to turn. If you find one false, say at which input.
  Laid BY PROGRAM, IN A SANDBOX (cutbox-rows.mjs): the forced cells as the released guide's own fill.sh prints them over the translation e0480d75d215a49d… (all of the seat's roots in one cut). By AI agents, Wed Nov 11 2026. No macro, syntax, notation, axiom, sorry.
-/
import Derived.Test.Qxb6603485aChecked
import GoSem.Claim
import GoSem.ClaimJoined
import GoSem.ClaimMapViews
import Derived.JoinedTies
import Derived.KernelRfl
namespace Go.Proofs.Qxb6603485a
/- THE CELL 'sum', in the pinned program and in every row, IS THE sha256 OF THE DUMP (.gsa) THAT Qxb6603485aProg.lean LOADS. Nothing in Lean hashes anything: it is a label: what it is worth is what the hold of that sum in a sandbox is worth. -/
noncomputable def Try.pinned : Pinned := { name := "qxb6603485a", sum := "e0480d75d215a49d4a3a06ade134efba1e4781a2859ee21fa3878f4ca229c788", checked := Try.checked }
namespace Rows
def none {H : Type} : Left H := { results := [], args := [] }

/-- 'zzlaws_internal_txlog_b1.FnOfTakesNothingAwayAndAgreesWithAll': WHATEVER THE INPUT: true; the input reads as it did. -/
def fnOfTakesNothingAwayAndAgreesWithAllSpec : ChangeSpec := { name := "fnOfTakesNothingAwayAndAgreesWithAll", fn := fun _ => fun
  | [d1, d2, d3] => { results := [.lit (.bool true)], args := [d1, d2, d3] }
  | _ => none }
def fnOfTakesNothingAwayAndAgreesWithAllRow : OpenClaim := { program := "qxb6603485a", sum := "e0480d75d215a49d4a3a06ade134efba1e4781a2859ee21fa3878f4ca229c788", func := "example.com/concordat/concordat/zzlaws_internal_txlog_b1.FnOfTakesNothingAwayAndAgreesWithAll", spec := "fnOfTakesNothingAwayAndAgreesWithAll", inPlace := ["(*internal/sync.Mutex).Lock", "internal/race.Disable", "sync/atomic.CompareAndSwapInt32", "internal/race.Enable", "internal/race.Acquire", "(*internal/sync.Mutex).lockSlow", "internal/sync.runtime_canSpin", "internal/sync.runtime_doSpin", "internal/sync.throw", "internal/sync.runtime_nanotime", "internal/sync.runtime_SemacquireMutex", "sync/atomic.AddInt32", "(*internal/sync.Mutex).Unlock", "internal/race.ReleaseMerge", "(*internal/sync.Mutex).unlockSlow", "internal/sync.fatal", "internal/sync.runtime_Semrelease", "maps.clone"], apart := false }
def FnOfTakesNothingAwayAndAgreesWithAllSaid : Prop := fnOfTakesNothingAwayAndAgreesWithAllRow.holds Try.pinned (OpenSpec.ofChange fnOfTakesNothingAwayAndAgreesWithAllSpec)

/-- ITS FALSE NEIGHBOUR: 'it returns false'. Refute it at one input. -/
def fnOfTakesNothingAwayAndAgreesWithAllWrong : ChangeSpec := { name := "fnOfTakesNothingAwayAndAgreesWithAll", fn := fun _ => fun
  | [d1, d2, d3] => { results := [.lit (.bool false)], args := [d1, d2, d3] }
  | _ => none }
def FnOfTakesNothingAwayAndAgreesWithAllWrongFalsely : Prop := fnOfTakesNothingAwayAndAgreesWithAllRow.holds Try.pinned (OpenSpec.ofChange fnOfTakesNothingAwayAndAgreesWithAllWrong)

/-- 'zzlaws_internal_txlog_b1.FnFinishLeavesTheBranchAsTheEndSays': WHATEVER THE INPUT: true; the input reads as it did. -/
def fnFinishLeavesTheBranchAsTheEndSaysSpec : ChangeSpec := { name := "fnFinishLeavesTheBranchAsTheEndSays", fn := fun _ => fun
  | [d1, d2, d3, d4, d5, d6, d7, d8, d9, d10, d11, d12] => { results := [.lit (.bool true)], args := [d1, d2, d3, d4, d5, d6, d7, d8, d9, d10, d11, d12] }
  | _ => none }
def fnFinishLeavesTheBranchAsTheEndSaysRow : OpenClaim := { program := "qxb6603485a", sum := "e0480d75d215a49d4a3a06ade134efba1e4781a2859ee21fa3878f4ca229c788", func := "example.com/concordat/concordat/zzlaws_internal_txlog_b1.FnFinishLeavesTheBranchAsTheEndSays", spec := "fnFinishLeavesTheBranchAsTheEndSays", apart := false }
def FnFinishLeavesTheBranchAsTheEndSaysSaid : Prop := fnFinishLeavesTheBranchAsTheEndSaysRow.holds Try.pinned (OpenSpec.ofChange fnFinishLeavesTheBranchAsTheEndSaysSpec)

/-- ITS FALSE NEIGHBOUR: 'it returns false'. Refute it at one input. -/
def fnFinishLeavesTheBranchAsTheEndSaysWrong : ChangeSpec := { name := "fnFinishLeavesTheBranchAsTheEndSays", fn := fun _ => fun
  | [d1, d2, d3, d4, d5, d6, d7, d8, d9, d10, d11, d12] => { results := [.lit (.bool false)], args := [d1, d2, d3, d4, d5, d6, d7, d8, d9, d10, d11, d12] }
  | _ => none }
def FnFinishLeavesTheBranchAsTheEndSaysWrongFalsely : Prop := fnFinishLeavesTheBranchAsTheEndSaysRow.holds Try.pinned (OpenSpec.ofChange fnFinishLeavesTheBranchAsTheEndSaysWrong)

/-- 'zzlaws_internal_txlog_b1.FnFinishTwiceIsFinishOnce': WHATEVER THE INPUT: true; the input reads as it did. -/
def fnFinishTwiceIsFinishOnceSpec : ChangeSpec := { name := "fnFinishTwiceIsFinishOnce", fn := fun _ => fun
  | [d1, d2, d3, d4, d5, d6, d7, d8, d9, d10, d11, d12] => { results := [.lit (.bool true)], args := [d1, d2, d3, d4, d5, d6, d7, d8, d9, d10, d11, d12] }
  | _ => none }
def fnFinishTwiceIsFinishOnceRow : OpenClaim := { program := "qxb6603485a", sum := "e0480d75d215a49d4a3a06ade134efba1e4781a2859ee21fa3878f4ca229c788", func := "example.com/concordat/concordat/zzlaws_internal_txlog_b1.FnFinishTwiceIsFinishOnce", spec := "fnFinishTwiceIsFinishOnce", apart := false }
def FnFinishTwiceIsFinishOnceSaid : Prop := fnFinishTwiceIsFinishOnceRow.holds Try.pinned (OpenSpec.ofChange fnFinishTwiceIsFinishOnceSpec)

/-- ITS FALSE NEIGHBOUR: 'it returns false'. Refute it at one input. -/
def fnFinishTwiceIsFinishOnceWrong : ChangeSpec := { name := "fnFinishTwiceIsFinishOnce", fn := fun _ => fun
  | [d1, d2, d3, d4, d5, d6, d7, d8, d9, d10, d11, d12] => { results := [.lit (.bool false)], args := [d1, d2, d3, d4, d5, d6, d7, d8, d9, d10, d11, d12] }
  | _ => none }
def FnFinishTwiceIsFinishOnceWrongFalsely : Prop := fnFinishTwiceIsFinishOnceRow.holds Try.pinned (OpenSpec.ofChange fnFinishTwiceIsFinishOnceWrong)

end Rows
end Go.Proofs.Qxb6603485a
