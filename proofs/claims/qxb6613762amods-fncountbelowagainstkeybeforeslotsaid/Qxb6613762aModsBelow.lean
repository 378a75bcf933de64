/-
  THE CALLEES OF BOTH LAWS: below (24), countBelow (20), ZZcountBelow (7).
-/
import Derived.Test.Qxb6613762aModsRows
import Derived.WalkKit
import Derived.ProofKit
import Derived.OpenShut
import Derived.Deep.QuietTactic
import Derived.BigQuiet
namespace Go.Proofs.Qxb6613762aMods.Cb
open Go.ChangeShapes Go.WideShapes Go.ChangeAt Go.RowKit

/-- 1 where slot s comes before the key k on the 32-bit circle, else 0 -/
def bel (s k : Int) : Int := (s - k) % 4294967296 / 2147483648
theorem bel_bd (s k : Int) : 0 ≤ bel s k ∧ bel s k ≤ 1 := by unfold bel; omega
/-- how many of four slots come before k -/
def cb (a b c d k : Int) : Int := bel a k + bel b k + (bel c k + bel d k)
theorem cb_bd (a b c d k : Int) : 0 ≤ cb a b c d k ∧ cb a b c d k ≤ 4 := by
  have := bel_bd a k; have := bel_bd b k; have := bel_bd c k; have := bel_bd d k; unfold cb; omega

set_option maxHeartbeats 400000 in
theorem below_any (s k : Int) (w : World) (hs : 0 ≤ s ∧ s ≤ 4294967295) (hk : 0 ≤ k ∧ k ≤ 4294967295) :
    Calls Trym.prog 24 #[.int .u32 s, .int .u32 k] w fun e w' => e = .returned (.int .u64 (bel s k)) ∧ w' = w := by
  go_enter Trym.func24, Trym.ntmps24
  go_wp2
  go_ret
  exact ⟨rfl, rfl⟩

set_option maxHeartbeats 400000 in
theorem countBelow_any (B : Nat) (a b c d k : Int) (w : World) (ha : 0 ≤ a ∧ a ≤ 4294967295) (hb : 0 ≤ b ∧ b ≤ 4294967295) (hc : 0 ≤ c ∧ c ≤ 4294967295) (hd : 0 ≤ d ∧ d ≤ 4294967295) (hk : 0 ≤ k ∧ k ≤ 4294967295)
    (c0 : w.cell? ⟨B, 0, none⟩ = some (.int .u32 a)) (c1 : w.cell? ⟨B, 1, none⟩ = some (.int .u32 b)) (c2 : w.cell? ⟨B, 2, none⟩ = some (.int .u32 c)) (c3 : w.cell? ⟨B, 3, none⟩ = some (.int .u32 d)) :
    Calls Trym.prog 20 #[.pointer (some ⟨B, 0, none⟩), .int .u32 k] w fun e w' => e = .returned (.int .u64 (cb a b c d k)) ∧ ∃ n, w' = w.drewN n := by
  have p0 := bel_bd a k
  have p1 := bel_bd b k
  have p2 := bel_bd c k
  have p3 := bel_bd d k
  go_enter Trym.func20, Trym.ntmps20
  go_wp2_with fail
  go_quiet ((go_at_call 24; exact Calls.quiet_of_same (below_any _ _ _ (by assumption) (by assumption))))
  go_wp2
  go_ret
  exact ⟨rfl, _, rfl⟩

theorem drewN_below {B : Nat} {a w : World} (n : Nat) (h : Below B a w) : Below B a (w.drewN n) := h.trans ⟨rfl, rfl, rfl, Nat.le_refl _, fun _ _ => rfl⟩

set_option maxHeartbeats 400000 in
theorem ZZcountBelow_any (a b c d k : Int) (w : World) (ha : 0 ≤ a ∧ a ≤ 4294967295) (hb : 0 ≤ b ∧ b ≤ 4294967295) (hc : 0 ≤ c ∧ c ≤ 4294967295) (hd : 0 ≤ d ∧ d ≤ 4294967295) (hk : 0 ≤ k ∧ k ≤ 4294967295) :
    Calls Trym.prog 7 #[.agg #[.int .u32 a, .int .u32 b, .int .u32 c, .int .u32 d], .int .u32 k] w fun e w' => e = .returned (.int .u64 (cb a b c d k)) ∧ Below w.heap.size w w' := by
  go_enter Trym.func7, Trym.ntmps7
  go_wp2_with fail
  refine (countBelow_any _ a b c d k _ ha hb hc hd hk (by go_simp) (by go_simp) (by go_simp) (by go_simp)).mono ?_
  rintro e w' ⟨rfl, n, rfl⟩
  go_wp2
  go_ret
  exact ⟨rfl, drewN_below n ((((Below.refl _ _).alloc (Nat.le_refl _) _).alloc (by simp) _))⟩

theorem bcell {W w1 : World} (hb : Below W.heap.size W w1) : (∀ b o, b < W.heap.size → w1.cell? ⟨b, o, none⟩ = W.cell? ⟨b, o, none⟩) ∧ (∀ b o, b < W.heap.size → w1.frozen? ⟨b, o, none⟩ = W.frozen? ⟨b, o, none⟩) :=
  ⟨fun b o h => hb.cell (p := ⟨b, o, none⟩) h, fun b o h => hb.frozen (p := ⟨b, o, none⟩) h⟩
end Go.Proofs.Qxb6613762aMods.Cb
