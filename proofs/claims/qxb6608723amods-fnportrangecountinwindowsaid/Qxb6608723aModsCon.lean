/-
  THE CALLEES OF BOTH LAWS, BY ONE CONTRACT: 'ZZportRangeContains(first, last, port)' answers 'first <= port && port <= last' and lays one new block (the struct's own box).
-/
import Derived.Test.Qxb6608723aModsRows
import Derived.WalkKit
import Derived.ProofKit
import Derived.OpenShut
namespace Go.Proofs.Qxb6608723aMods.Con
open Go.ChangeShapes Go.WideShapes Go.ChangeAt Go.RowKit

/-- The plain function: does [f, l] hold p? -/
def conB (f l p : Int) : Bool := decide (f ≤ p ∧ p ≤ l)

theorem conB_yes {f l p : Int} (h1 : f ≤ p) (h2 : p ≤ l) : conB f l p = true := by simp [conB, h1, h2]
theorem conB_low {f l p : Int} (h1 : p < f) : conB f l p = false := by simp [conB]; omega
theorem conB_high {f l p : Int} (h1 : l < p) : conB f l p = false := by simp [conB]; omega

theorem grown_trans {a b c : World} (h : Grown a b) (k : Grown b c) : Grown a c :=
  ⟨World.keptBut_trans h.1 k.1, fun x => (k.2.1 x).trans (h.2.1 x), Nat.le_trans h.2.2 k.2.2⟩

set_option maxHeartbeats 400000 in
theorem con_any (f l p : Int) (w : World) :
    Calls Trym.prog 5 #[.int .i64 f, .int .i64 l, .int .i64 p] w fun e w' => e = .returned (.bool (conB f l p)) ∧ Grown w w' := by
  by_cases h1 : f ≤ p
  · by_cases h2 : p ≤ l
    · go_enter Trym.func5, Trym.ntmps5
      go_wp2
      go_ret
      exact ⟨by rw [conB_yes h1 h2]; rfl, by repeat (first | exact Grown.refl _ | apply Grown.drew | apply Grown.alloc)⟩
    · go_enter Trym.func5, Trym.ntmps5
      go_wp2
      go_ret
      exact ⟨by rw [conB_high (by omega)]; rfl, by repeat (first | exact Grown.refl _ | apply Grown.drew | apply Grown.alloc)⟩
  · go_enter Trym.func5, Trym.ntmps5
    go_wp2
    go_ret
    exact ⟨by rw [conB_low (by omega)]; rfl, by repeat (first | exact Grown.refl _ | apply Grown.drew | apply Grown.alloc)⟩
end Go.Proofs.Qxb6608723aMods.Con
