/-
  No cell of these rows narrows 'for every input' (looked for: loops, veiled, ifaces, maps, wideKeys, modest, calm, conditions, laid).
  DERIVED. THE GIVEN ROWS OF THIS SEAT. 4 by the template 'for every input the law returns true; each argument reads behind the call as it read before'; 0 by the template 'total and deterministic' (their statements: Qxb6609126aModsTotals.lean).
  GIVEN WITH THE SEED: the statements are not yours to turn. If you find one false, say at which input.
  Laid BY PROGRAM, IN A SANDBOX (cutbox-rows.mjs): the forced cells as the released guide's own fill.sh prints them over the translation 1c8c59a32df35093… (all of the seat's roots in one cut). By AI agents, Wed Nov 11 2026. No macro, syntax, notation, axiom, sorry.
-/
import Derived.Test.Qxb6609126aModsChecked
import GoSem.Claim
import GoSem.ClaimJoined
import GoSem.ClaimMapViews
import Derived.JoinedTies
import Derived.KernelRfl
namespace Go.Proofs.Qxb6609126aMods
/- THE CELL 'sum', in the pinned program and in every row, IS THE sha256 OF THE DUMP (.gsa) THAT Qxb6609126aModsProg.lean LOADS. Nothing in Lean hashes anything: it is a label: what it is worth is what the hold of that sum in a sandbox is worth. -/
noncomputable def Trym.pinned : Pinned := { name := "qxb6609126amods", sum := "1c8c59a32df350938a9c2ab3424b49d6a7a5d7b5c287eead417b6feb2a63445a", checked := Trym.checked }
namespace Rows
def none {H : Type} : Left H := { results := [], args := [] }

/-- 'zzlaws_root_b1.FnSplitObjectAtAnyCut': WHATEVER THE INPUT: true; the input reads as it did. -/
def fnSplitObjectAtAnyCutSpec : ChangeSpec := { name := "fnSplitObjectAtAnyCut", fn := fun _ => fun
  | [d1, d2] => { results := [.lit (.bool true)], args := [d1, d2] }
  | _ => none }
def fnSplitObjectAtAnyCutRow : OpenClaim := { program := "qxb6609126amods", sum := "1c8c59a32df350938a9c2ab3424b49d6a7a5d7b5c287eead417b6feb2a63445a", func := "example.com/crosslatch/crosslatch/zzlaws_root_b1.FnSplitObjectAtAnyCut", spec := "fnSplitObjectAtAnyCut", inPlace := ["internal/bytealg.IndexByteString", "internal/bytealg.IndexString"], named := ["internal/bytealg.MaxLen"], make := .lifted ["publicsums"], apart := false }
def FnSplitObjectAtAnyCutSaid : Prop := fnSplitObjectAtAnyCutRow.holds Trym.pinned (OpenSpec.ofChange fnSplitObjectAtAnyCutSpec)

/-- ITS FALSE NEIGHBOUR: 'it returns false'. Refute it at one input. -/
def fnSplitObjectAtAnyCutWrong : ChangeSpec := { name := "fnSplitObjectAtAnyCut", fn := fun _ => fun
  | [d1, d2] => { results := [.lit (.bool false)], args := [d1, d2] }
  | _ => none }
def FnSplitObjectAtAnyCutWrongFalsely : Prop := fnSplitObjectAtAnyCutRow.holds Trym.pinned (OpenSpec.ofChange fnSplitObjectAtAnyCutWrong)

/-- 'zzlaws_root_b1.FnSplitObjectLosesNothing': WHATEVER THE INPUT: true; the input reads as it did. -/
def fnSplitObjectLosesNothingSpec : ChangeSpec := { name := "fnSplitObjectLosesNothing", fn := fun _ => fun
  | [d] => { results := [.lit (.bool true)], args := [d] }
  | _ => none }
def fnSplitObjectLosesNothingRow : OpenClaim := { program := "qxb6609126amods", sum := "1c8c59a32df350938a9c2ab3424b49d6a7a5d7b5c287eead417b6feb2a63445a", func := "example.com/crosslatch/crosslatch/zzlaws_root_b1.FnSplitObjectLosesNothing", spec := "fnSplitObjectLosesNothing", inPlace := ["internal/bytealg.IndexByteString", "internal/bytealg.IndexString"], named := ["internal/bytealg.MaxLen"], make := .lifted ["publicsums"], apart := false }
def FnSplitObjectLosesNothingSaid : Prop := fnSplitObjectLosesNothingRow.holds Trym.pinned (OpenSpec.ofChange fnSplitObjectLosesNothingSpec)

/-- ITS FALSE NEIGHBOUR: 'it returns false'. Refute it at one input. -/
def fnSplitObjectLosesNothingWrong : ChangeSpec := { name := "fnSplitObjectLosesNothing", fn := fun _ => fun
  | [d] => { results := [.lit (.bool false)], args := [d] }
  | _ => none }
def FnSplitObjectLosesNothingWrongFalsely : Prop := fnSplitObjectLosesNothingRow.holds Trym.pinned (OpenSpec.ofChange fnSplitObjectLosesNothingWrong)

/-- 'zzlaws_root_b1.FnIsNameAtAnyCut': WHATEVER THE INPUT: true; the input reads as it did. -/
def fnIsNameAtAnyCutSpec : ChangeSpec := { name := "fnIsNameAtAnyCut", fn := fun _ => fun
  | [d1, d2, d3] => { results := [.lit (.bool true)], args := [d1, d2, d3] }
  | _ => none }
def fnIsNameAtAnyCutRow : OpenClaim := { program := "qxb6609126amods", sum := "1c8c59a32df350938a9c2ab3424b49d6a7a5d7b5c287eead417b6feb2a63445a", func := "example.com/crosslatch/crosslatch/zzlaws_root_b1.FnIsNameAtAnyCut", spec := "fnIsNameAtAnyCut", make := .lifted ["publicsums"], apart := false }
def FnIsNameAtAnyCutSaid : Prop := fnIsNameAtAnyCutRow.holds Trym.pinned (OpenSpec.ofChange fnIsNameAtAnyCutSpec)

/-- ITS FALSE NEIGHBOUR: 'it returns false'. Refute it at one input. -/
def fnIsNameAtAnyCutWrong : ChangeSpec := { name := "fnIsNameAtAnyCut", fn := fun _ => fun
  | [d1, d2, d3] => { results := [.lit (.bool false)], args := [d1, d2, d3] }
  | _ => none }
def FnIsNameAtAnyCutWrongFalsely : Prop := fnIsNameAtAnyCutRow.holds Trym.pinned (OpenSpec.ofChange fnIsNameAtAnyCutWrong)

/-- 'zzlaws_root_b1.FnIsNameLeastLimit': WHATEVER THE INPUT: true; the input reads as it did. -/
def fnIsNameLeastLimitSpec : ChangeSpec := { name := "fnIsNameLeastLimit", fn := fun _ => fun
  | [d1, d2] => { results := [.lit (.bool true)], args := [d1, d2] }
  | _ => none }
def fnIsNameLeastLimitRow : OpenClaim := { program := "qxb6609126amods", sum := "1c8c59a32df350938a9c2ab3424b49d6a7a5d7b5c287eead417b6feb2a63445a", func := "example.com/crosslatch/crosslatch/zzlaws_root_b1.FnIsNameLeastLimit", spec := "fnIsNameLeastLimit", make := .lifted ["publicsums"], apart := false }
def FnIsNameLeastLimitSaid : Prop := fnIsNameLeastLimitRow.holds Trym.pinned (OpenSpec.ofChange fnIsNameLeastLimitSpec)

/-- ITS FALSE NEIGHBOUR: 'it returns false'. Refute it at one input. -/
def fnIsNameLeastLimitWrong : ChangeSpec := { name := "fnIsNameLeastLimit", fn := fun _ => fun
  | [d1, d2] => { results := [.lit (.bool false)], args := [d1, d2] }
  | _ => none }
def FnIsNameLeastLimitWrongFalsely : Prop := fnIsNameLeastLimitRow.holds Trym.pinned (OpenSpec.ofChange fnIsNameLeastLimitWrong)

end Rows
end Go.Proofs.Qxb6609126aMods
