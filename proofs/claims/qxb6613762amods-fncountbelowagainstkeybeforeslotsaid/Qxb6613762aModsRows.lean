/-
  No cell of these rows narrows 'for every input' (looked for: loops, veiled, ifaces, maps, wideKeys, modest, calm, conditions, laid).
  DERIVED. THE GIVEN ROWS OF THIS SEAT. 4 by the template 'for every input the law returns true; each argument reads behind the call as it read before'; 0 by the template 'total and deterministic' (their statements: Qxb6613762aModsTotals.lean).
  GIVEN WITH THE SEED: the statements are not yours to turn. If you find one false, say at which input.
  Laid BY PROGRAM, IN A SANDBOX (cutbox-rows.mjs): the forced cells as the released guide's own fill.sh prints them over the translation 6ef6322cd0be5b60… (all of the seat's roots in one cut). By AI agents, Wed Nov 11 2026. No macro, syntax, notation, axiom, sorry.
-/
import Derived.Test.Qxb6613762aModsChecked
import GoSem.Claim
import GoSem.ClaimJoined
import GoSem.ClaimMapViews
import Derived.JoinedTies
import Derived.KernelRfl
namespace Go.Proofs.Qxb6613762aMods
/- THE CELL 'sum', in the pinned program and in every row, IS THE sha256 OF THE DUMP (.gsa) THAT Qxb6613762aModsProg.lean LOADS. Nothing in Lean hashes anything: it is a label: what it is worth is what the hold of that sum in a sandbox is worth. -/
noncomputable def Trym.pinned : Pinned := { name := "qxb6613762amods", sum := "6ef6322cd0be5b6012bf9257cd511b7cc4858eba91e47966ea4de5605f8f036f", checked := Trym.checked }
namespace Rows
def none {H : Type} : Left H := { results := [], args := [] }

/-- 'zzlaws_root_b1.FnCountBelowShiftAndDistance': WHATEVER THE INPUT: true; the input reads as it did. -/
def fnCountBelowShiftAndDistanceSpec : ChangeSpec := { name := "fnCountBelowShiftAndDistance", fn := fun _ => fun
  | [d1, d2, d3] => { results := [.lit (.bool true)], args := [d1, d2, d3] }
  | _ => none }
def fnCountBelowShiftAndDistanceRow : OpenClaim := { program := "qxb6613762amods", sum := "6ef6322cd0be5b6012bf9257cd511b7cc4858eba91e47966ea4de5605f8f036f", func := "example.com/ringbound/ringbound/zzlaws_root_b1.FnCountBelowShiftAndDistance", spec := "fnCountBelowShiftAndDistance", make := .lifted ["publicsums"], apart := false }
def FnCountBelowShiftAndDistanceSaid : Prop := fnCountBelowShiftAndDistanceRow.holds Trym.pinned (OpenSpec.ofChange fnCountBelowShiftAndDistanceSpec)

/-- ITS FALSE NEIGHBOUR: 'it returns false'. Refute it at one input. -/
def fnCountBelowShiftAndDistanceWrong : ChangeSpec := { name := "fnCountBelowShiftAndDistance", fn := fun _ => fun
  | [d1, d2, d3] => { results := [.lit (.bool false)], args := [d1, d2, d3] }
  | _ => none }
def FnCountBelowShiftAndDistanceWrongFalsely : Prop := fnCountBelowShiftAndDistanceRow.holds Trym.pinned (OpenSpec.ofChange fnCountBelowShiftAndDistanceWrong)

/-- 'zzlaws_root_b1.FnCountBelowAgainstKeyBeforeSlot': WHATEVER THE INPUT: true; the input reads as it did. -/
def fnCountBelowAgainstKeyBeforeSlotSpec : ChangeSpec := { name := "fnCountBelowAgainstKeyBeforeSlot", fn := fun _ => fun
  | [d1, d2] => { results := [.lit (.bool true)], args := [d1, d2] }
  | _ => none }
def fnCountBelowAgainstKeyBeforeSlotRow : OpenClaim := { program := "qxb6613762amods", sum := "6ef6322cd0be5b6012bf9257cd511b7cc4858eba91e47966ea4de5605f8f036f", func := "example.com/ringbound/ringbound/zzlaws_root_b1.FnCountBelowAgainstKeyBeforeSlot", spec := "fnCountBelowAgainstKeyBeforeSlot", make := .lifted ["publicsums"], apart := false }
def FnCountBelowAgainstKeyBeforeSlotSaid : Prop := fnCountBelowAgainstKeyBeforeSlotRow.holds Trym.pinned (OpenSpec.ofChange fnCountBelowAgainstKeyBeforeSlotSpec)

/-- ITS FALSE NEIGHBOUR: 'it returns false'. Refute it at one input. -/
def fnCountBelowAgainstKeyBeforeSlotWrong : ChangeSpec := { name := "fnCountBelowAgainstKeyBeforeSlot", fn := fun _ => fun
  | [d1, d2] => { results := [.lit (.bool false)], args := [d1, d2] }
  | _ => none }
def FnCountBelowAgainstKeyBeforeSlotWrongFalsely : Prop := fnCountBelowAgainstKeyBeforeSlotRow.holds Trym.pinned (OpenSpec.ofChange fnCountBelowAgainstKeyBeforeSlotWrong)

/-- 'zzlaws_root_b1.FnMoveHoldTwoChangesAsOne': WHATEVER THE INPUT: true; the input reads as it did. -/
def fnMoveHoldTwoChangesAsOneSpec : ChangeSpec := { name := "fnMoveHoldTwoChangesAsOne", fn := fun _ => fun
  | [d1, d2, d3, d4, d5, d6, d7, d8] => { results := [.lit (.bool true)], args := [d1, d2, d3, d4, d5, d6, d7, d8] }
  | _ => none }
def fnMoveHoldTwoChangesAsOneRow : OpenClaim := { program := "qxb6613762amods", sum := "6ef6322cd0be5b6012bf9257cd511b7cc4858eba91e47966ea4de5605f8f036f", func := "example.com/ringbound/ringbound/zzlaws_root_b1.FnMoveHoldTwoChangesAsOne", spec := "fnMoveHoldTwoChangesAsOne", inPlace := ["sync/atomic.StoreUint64", "sync/atomic.CompareAndSwapUint64", "sync/atomic.LoadUint64"], make := .lifted ["publicsums"], apart := false }
def FnMoveHoldTwoChangesAsOneSaid : Prop := fnMoveHoldTwoChangesAsOneRow.holds Trym.pinned (OpenSpec.ofChange fnMoveHoldTwoChangesAsOneSpec)

/-- ITS FALSE NEIGHBOUR: 'it returns false'. Refute it at one input. -/
def fnMoveHoldTwoChangesAsOneWrong : ChangeSpec := { name := "fnMoveHoldTwoChangesAsOne", fn := fun _ => fun
  | [d1, d2, d3, d4, d5, d6, d7, d8] => { results := [.lit (.bool false)], args := [d1, d2, d3, d4, d5, d6, d7, d8] }
  | _ => none }
def FnMoveHoldTwoChangesAsOneWrongFalsely : Prop := fnMoveHoldTwoChangesAsOneRow.holds Trym.pinned (OpenSpec.ofChange fnMoveHoldTwoChangesAsOneWrong)

/-- 'zzlaws_root_b1.FnMoveHoldLeavingEndsOnce': WHATEVER THE INPUT: true; the input reads as it did. -/
def fnMoveHoldLeavingEndsOnceSpec : ChangeSpec := { name := "fnMoveHoldLeavingEndsOnce", fn := fun _ => fun
  | [d1, d2, d3, d4, d5, d6, d7] => { results := [.lit (.bool true)], args := [d1, d2, d3, d4, d5, d6, d7] }
  | _ => none }
def fnMoveHoldLeavingEndsOnceRow : OpenClaim := { program := "qxb6613762amods", sum := "6ef6322cd0be5b6012bf9257cd511b7cc4858eba91e47966ea4de5605f8f036f", func := "example.com/ringbound/ringbound/zzlaws_root_b1.FnMoveHoldLeavingEndsOnce", spec := "fnMoveHoldLeavingEndsOnce", inPlace := ["sync/atomic.StoreUint64", "sync/atomic.CompareAndSwapUint64", "sync/atomic.LoadUint64"], make := .lifted ["publicsums"], apart := false }
def FnMoveHoldLeavingEndsOnceSaid : Prop := fnMoveHoldLeavingEndsOnceRow.holds Trym.pinned (OpenSpec.ofChange fnMoveHoldLeavingEndsOnceSpec)

/-- ITS FALSE NEIGHBOUR: 'it returns false'. Refute it at one input. -/
def fnMoveHoldLeavingEndsOnceWrong : ChangeSpec := { name := "fnMoveHoldLeavingEndsOnce", fn := fun _ => fun
  | [d1, d2, d3, d4, d5, d6, d7] => { results := [.lit (.bool false)], args := [d1, d2, d3, d4, d5, d6, d7] }
  | _ => none }
def FnMoveHoldLeavingEndsOnceWrongFalsely : Prop := fnMoveHoldLeavingEndsOnceRow.holds Trym.pinned (OpenSpec.ofChange fnMoveHoldLeavingEndsOnceWrong)

end Rows
end Go.Proofs.Qxb6613762aMods
