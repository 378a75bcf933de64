/-
  THE PLAIN LAW: how many of lo, lo+1, .., lo+k-1 lie in [f, l]. No Go in sight.
-/
import Derived.Test.Qxb6608723aModsCon
namespace Go.Proofs.Qxb6608723aMods.Count
open Con

/-- Of the first k ports from lo on: how many does [f, l] hold? -/
def cnt (f l lo : Int) : Nat → Int
  | 0 => 0
  | k + 1 => cnt f l lo k + if conB f l (lo + k) = true then 1 else 0

theorem cnt_yes {f l lo : Int} {k : Nat} (h : conB f l (lo + k) = true) : cnt f l lo (k + 1) = cnt f l lo k + 1 := by simp [cnt, h]
theorem cnt_no {f l lo : Int} {k : Nat} (h : conB f l (lo + k) = false) : cnt f l lo (k + 1) = cnt f l lo k := by simp [cnt, h]

theorem cnt_bd (f l lo : Int) (k : Nat) : 0 ≤ cnt f l lo k ∧ cnt f l lo k ≤ k := by
  induction k with
  | zero => simp [cnt]
  | succ k ih =>
    cases h : conB f l (lo + k)
    · rw [cnt_no h]; omega
    · rw [cnt_yes h]; omega

theorem cnt_eq (f l lo : Int) (k : Nat) : cnt f l lo k = max 0 (min l (lo + k - 1) - max f lo + 1) := by
  induction k with
  | zero => simp only [cnt]; omega
  | succ k ih =>
    by_cases h1 : f ≤ lo + k
    · by_cases h2 : lo + k ≤ l
      · rw [cnt_yes (conB_yes h1 h2), ih]; omega
      · rw [cnt_no (conB_high (by omega)), ih]; omega
    · rw [cnt_no (conB_low (by omega)), ih]; omega
end Go.Proofs.Qxb6608723aMods.Count
