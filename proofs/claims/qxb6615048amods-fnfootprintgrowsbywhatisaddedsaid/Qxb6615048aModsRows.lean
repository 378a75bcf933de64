/-
  No cell of these rows narrows 'for every input' (looked for: loops, veiled, ifaces, maps, wideKeys, modest, calm, conditions, laid).
  DERIVED. THE GIVEN ROWS OF THIS SEAT. 2 by the template 'for every input the law returns true; each argument reads behind the call as it read before'; 0 by the template 'total and deterministic' (their statements: Qxb6615048aModsTotals.lean).
  GIVEN WITH THE SEED: the statements are not yours to turn. If you find one false, say at which input.
  Laid BY PROGRAM, IN A SANDBOX (cutbox-rows.mjs): the forced cells as the released guide's own fill.sh prints them over the translation bc63de3b2ca2af2f… (all of the seat's roots in one cut). By AI agents, Wed Nov 11 2026. No macro, syntax, notation, axiom, sorry.
-/
import Derived.Test.Qxb6615048aModsChecked
import GoSem.Claim
import GoSem.ClaimJoined
import GoSem.ClaimMapViews
import Derived.JoinedTies
import Derived.KernelRfl
namespace Go.Proofs.Qxb6615048aMods
/- THE CELL 'sum', in the pinned program and in every row, IS THE sha256 OF THE DUMP (.gsa) THAT Qxb6615048aModsProg.lean LOADS. Nothing in Lean hashes anything: it is a label: what it is worth is what the hold of that sum in a sandbox is worth. -/
noncomputable def Trym.pinned : Pinned := { name := "qxb6615048amods", sum := "bc63de3b2ca2af2ffab2406576b10cc6a8d4c0e85971e15c6359c6fcb1ec0fc4", checked := Trym.checked }
namespace Rows
def none {H : Type} : Left H := { results := [], args := [] }

/-- 'zzlaws_p2p_b1.FnFootprintIsContentAboveTheEmptyMessage': WHATEVER THE INPUT: true; the input reads as it did. -/
def fnFootprintIsContentAboveTheEmptyMessageSpec : ChangeSpec := { name := "fnFootprintIsContentAboveTheEmptyMessage", fn := fun _ => fun
  | [d1, d2, d3, d4, d5] => { results := [.lit (.bool true)], args := [d1, d2, d3, d4, d5] }
  | _ => none }
def fnFootprintIsContentAboveTheEmptyMessageRow : OpenClaim := { program := "qxb6615048amods", sum := "bc63de3b2ca2af2ffab2406576b10cc6a8d4c0e85971e15c6359c6fcb1ec0fc4", func := "example.com/fallowmesh/fallowmesh/zzlaws_p2p_b1.FnFootprintIsContentAboveTheEmptyMessage", spec := "fnFootprintIsContentAboveTheEmptyMessage", make := .lifted ["publicsums"], apart := false }
def FnFootprintIsContentAboveTheEmptyMessageSaid : Prop := fnFootprintIsContentAboveTheEmptyMessageRow.holds Trym.pinned (OpenSpec.ofChange fnFootprintIsContentAboveTheEmptyMessageSpec)

/-- ITS FALSE NEIGHBOUR: 'it returns false'. Refute it at one input. -/
def fnFootprintIsContentAboveTheEmptyMessageWrong : ChangeSpec := { name := "fnFootprintIsContentAboveTheEmptyMessage", fn := fun _ => fun
  | [d1, d2, d3, d4, d5] => { results := [.lit (.bool false)], args := [d1, d2, d3, d4, d5] }
  | _ => none }
def FnFootprintIsContentAboveTheEmptyMessageWrongFalsely : Prop := fnFootprintIsContentAboveTheEmptyMessageRow.holds Trym.pinned (OpenSpec.ofChange fnFootprintIsContentAboveTheEmptyMessageWrong)

/-- 'zzlaws_p2p_b1.FnFootprintGrowsByWhatIsAdded': WHATEVER THE INPUT: true; the input reads as it did. -/
def fnFootprintGrowsByWhatIsAddedSpec : ChangeSpec := { name := "fnFootprintGrowsByWhatIsAdded", fn := fun _ => fun
  | [d1, d2, d3, d4, d5, d6, d7] => { results := [.lit (.bool true)], args := [d1, d2, d3, d4, d5, d6, d7] }
  | _ => none }
def fnFootprintGrowsByWhatIsAddedRow : OpenClaim := { program := "qxb6615048amods", sum := "bc63de3b2ca2af2ffab2406576b10cc6a8d4c0e85971e15c6359c6fcb1ec0fc4", func := "example.com/fallowmesh/fallowmesh/zzlaws_p2p_b1.FnFootprintGrowsByWhatIsAdded", spec := "fnFootprintGrowsByWhatIsAdded", make := .lifted ["publicsums"], apart := false }
def FnFootprintGrowsByWhatIsAddedSaid : Prop := fnFootprintGrowsByWhatIsAddedRow.holds Trym.pinned (OpenSpec.ofChange fnFootprintGrowsByWhatIsAddedSpec)

/-- ITS FALSE NEIGHBOUR: 'it returns false'. Refute it at one input. -/
def fnFootprintGrowsByWhatIsAddedWrong : ChangeSpec := { name := "fnFootprintGrowsByWhatIsAdded", fn := fun _ => fun
  | [d1, d2, d3, d4, d5, d6, d7] => { results := [.lit (.bool false)], args := [d1, d2, d3, d4, d5, d6, d7] }
  | _ => none }
def FnFootprintGrowsByWhatIsAddedWrongFalsely : Prop := fnFootprintGrowsByWhatIsAddedRow.holds Trym.pinned (OpenSpec.ofChange fnFootprintGrowsByWhatIsAddedWrong)

end Rows
end Go.Proofs.Qxb6615048aMods
