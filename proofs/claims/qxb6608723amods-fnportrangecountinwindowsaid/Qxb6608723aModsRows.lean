/-
  No cell of these rows narrows 'for every input' (looked for: loops, veiled, ifaces, maps, wideKeys, modest, calm, conditions, laid).
  DERIVED. THE GIVEN ROWS OF THIS SEAT. 2 by the template 'for every input the law returns true; each argument reads behind the call as it read before'; 0 by the template 'total and deterministic' (their statements: Qxb6608723aModsTotals.lean).
  GIVEN WITH THE SEED: the statements are not yours to turn. If you find one false, say at which input.
  Laid BY PROGRAM, IN A SANDBOX (cutbox-rows.mjs): the forced cells as the released guide's own fill.sh prints them over the translation 210255cff1dd1fd0… (all of the seat's roots in one cut). By AI agents, Wed Nov 11 2026. No macro, syntax, notation, axiom, sorry.
-/
import Derived.Test.Qxb6608723aModsChecked
import GoSem.Claim
import GoSem.ClaimJoined
import GoSem.ClaimMapViews
import Derived.JoinedTies
import Derived.KernelRfl
namespace Go.Proofs.Qxb6608723aMods
/- THE CELL 'sum', in the pinned program and in every row, IS THE sha256 OF THE DUMP (.gsa) THAT Qxb6608723aModsProg.lean LOADS. Nothing in Lean hashes anything: it is a label: what it is worth is what the hold of that sum in a sandbox is worth. -/
noncomputable def Trym.pinned : Pinned := { name := "qxb6608723amods", sum := "210255cff1dd1fd08336062381d858a34dca5e9dc50896cb13ae66955c405b35", checked := Trym.checked }
namespace Rows
def none {H : Type} : Left H := { results := [], args := [] }

/-- 'zzlaws_internal_kubetest_b1.FnPortRangeSplitAtAnyCut': WHATEVER THE INPUT: true; the input reads as it did. -/
def fnPortRangeSplitAtAnyCutSpec : ChangeSpec := { name := "fnPortRangeSplitAtAnyCut", fn := fun _ => fun
  | [d1, d2, d3, d4] => { results := [.lit (.bool true)], args := [d1, d2, d3, d4] }
  | _ => none }
def fnPortRangeSplitAtAnyCutRow : OpenClaim := { program := "qxb6608723amods", sum := "210255cff1dd1fd08336062381d858a34dca5e9dc50896cb13ae66955c405b35", func := "example.com/fleetweave/fleetweave/zzlaws_internal_kubetest_b1.FnPortRangeSplitAtAnyCut", spec := "fnPortRangeSplitAtAnyCut", make := .lifted ["publicsums"], apart := false }
def FnPortRangeSplitAtAnyCutSaid : Prop := fnPortRangeSplitAtAnyCutRow.holds Trym.pinned (OpenSpec.ofChange fnPortRangeSplitAtAnyCutSpec)

/-- ITS FALSE NEIGHBOUR: 'it returns false'. Refute it at one input. -/
def fnPortRangeSplitAtAnyCutWrong : ChangeSpec := { name := "fnPortRangeSplitAtAnyCut", fn := fun _ => fun
  | [d1, d2, d3, d4] => { results := [.lit (.bool false)], args := [d1, d2, d3, d4] }
  | _ => none }
def FnPortRangeSplitAtAnyCutWrongFalsely : Prop := fnPortRangeSplitAtAnyCutRow.holds Trym.pinned (OpenSpec.ofChange fnPortRangeSplitAtAnyCutWrong)

/-- 'zzlaws_internal_kubetest_b1.FnPortRangeCountInWindow': WHATEVER THE INPUT: true; the input reads as it did. -/
def fnPortRangeCountInWindowSpec : ChangeSpec := { name := "fnPortRangeCountInWindow", fn := fun _ => fun
  | [d1, d2, d3] => { results := [.lit (.bool true)], args := [d1, d2, d3] }
  | _ => none }
def fnPortRangeCountInWindowRow : OpenClaim := { program := "qxb6608723amods", sum := "210255cff1dd1fd08336062381d858a34dca5e9dc50896cb13ae66955c405b35", func := "example.com/fleetweave/fleetweave/zzlaws_internal_kubetest_b1.FnPortRangeCountInWindow", spec := "fnPortRangeCountInWindow", make := .lifted ["publicsums"], apart := false }
def FnPortRangeCountInWindowSaid : Prop := fnPortRangeCountInWindowRow.holds Trym.pinned (OpenSpec.ofChange fnPortRangeCountInWindowSpec)

/-- ITS FALSE NEIGHBOUR: 'it returns false'. Refute it at one input. -/
def fnPortRangeCountInWindowWrong : ChangeSpec := { name := "fnPortRangeCountInWindow", fn := fun _ => fun
  | [d1, d2, d3] => { results := [.lit (.bool false)], args := [d1, d2, d3] }
  | _ => none }
def FnPortRangeCountInWindowWrongFalsely : Prop := fnPortRangeCountInWindowRow.holds Trym.pinned (OpenSpec.ofChange fnPortRangeCountInWindowWrong)

end Rows
end Go.Proofs.Qxb6608723aMods
