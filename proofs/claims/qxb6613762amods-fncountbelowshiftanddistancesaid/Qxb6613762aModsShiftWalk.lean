/-
  THE WALK OF FnCountBelowShiftAndDistance (function 3).
-/
import Derived.Test.Qxb6613762aModsBelow
import Derived.LoopN
namespace Go.Proofs.Qxb6613762aMods.Shift
open Go.ChangeShapes Go.WideShapes Go.ChangeAt Go.RowKit
open Cb

theorem bel_shift (s k d : Int) : bel ((s + d) % 4294967296) ((k + d) % 4294967296) = bel s k := by unfold bel; omega
theorem cb_shift (a b c d k e : Int) : cb ((a + e) % 4294967296) ((b + e) % 4294967296) ((c + e) % 4294967296) ((d + e) % 4294967296) ((k + e) % 4294967296) = cb a b c d k := by
  unfold cb; rw [bel_shift, bel_shift, bel_shift, bel_shift]
theorem mod_bd (x : Int) : 0 ≤ x % 4294967296 ∧ x % 4294967296 ≤ 4294967295 := by omega

/-- the j-th slot -/
def nth (a b c d : Int) : Nat → Int | 0 => a | 1 => b | 2 => c | _ => d
/-- how many of the first j slots come before k -/
def wt (a b c d k : Int) : Nat → Int
  | 0 => 0
  | j + 1 => wt a b c d k j + bel (nth a b c d j) k
theorem wt_same {a b c d k : Int} {j : Nat} (h : Hid (bel (nth a b c d j) k = 0)) : wt a b c d k j = wt a b c d k (j + 1) := by simp only [wt]; rw [h.out]; omega
theorem wt_more {a b c d k : Int} {j : Nat} (h : Hid (bel (nth a b c d j) k = 1)) : wt a b c d k j + 1 = wt a b c d k (j + 1) := by simp only [wt]; rw [h.out]
theorem wt_bd (a b c d k : Int) (j : Nat) : 0 ≤ wt a b c d k j ∧ wt a b c d k j ≤ j := by
  induction j with
  | zero => simp [wt]
  | succ j ih => have := bel_bd (nth a b c d j) k; simp only [wt]; omega
theorem cb_wt (a b c d k : Int) : Hid (cb a b c d k = wt a b c d k 4) := by
  show cb a b c d k = _
  simp only [cb, wt, nth]; omega
/-- a slot's distance from the key, against 'bel' -/
theorem far (s k : Int) : (Hid (bel s k = 0) ∧ (k - s) % 4294967296 < 1) ∨ (Hid (bel s k = 1) ∧ 1 ≤ (k - s) % 4294967296 ∧ (k - s) % 4294967296 ≤ 2147483648) ∨ (Hid (bel s k = 0) ∧ 2147483648 < (k - s) % 4294967296) := by
  unfold bel Hid; omega

set_option maxHeartbeats 2000000 in
theorem walk (a b c d k e : Int) (ha : 0 ≤ a ∧ a ≤ 4294967295) (hb : 0 ≤ b ∧ b ≤ 4294967295) (hc : 0 ≤ c ∧ c ≤ 4294967295) (hd : 0 ≤ d ∧ d ≤ 4294967295) (hk : 0 ≤ k ∧ k ≤ 4294967295) (_he : 0 ≤ e ∧ e ≤ 4294967295) (w : World) :
    Calls Trym.prog 3 #[.agg #[.int .u32 a, .int .u32 b, .int .u32 c, .int .u32 d], .int .u32 k, .int .u32 e] w fun e w' => e = .returned (.bool true) ∧ Below w.heap.size w w' := by
  go_enter Trym.func3, Trym.ntmps3
  go_wp2_with fail
  refine (ZZcountBelow_any a b c d k _ ha hb hc hd hk).mono ?_
  rintro x w1 ⟨rfl, hbel⟩
  have hz : w.heap.size < w1.heap.size := by have := hbel.size; simp at this; omega
  have q0 : w1.cell? ⟨w.heap.size, 0, none⟩ = some (.int .u32 a) := (hbel.cell (by simp)).trans (by go_simp)
  have q1 : w1.cell? ⟨w.heap.size, 1, none⟩ = some (.int .u32 b) := (hbel.cell (by simp)).trans (by go_simp)
  have q2 : w1.cell? ⟨w.heap.size, 2, none⟩ = some (.int .u32 c) := (hbel.cell (by simp)).trans (by go_simp)
  have q3 : w1.cell? ⟨w.heap.size, 3, none⟩ = some (.int .u32 d) := (hbel.cell (by simp)).trans (by go_simp)
  have HB : Hid (Below w.heap.size w w1) := ((Below.refl _ _).alloc (Nat.le_refl _) _).trans (hbel.mono (by simp))
  clear hbel
  go_wp2_with fail
  refine wp_loop_rounds 5 ?_
  rw [rounds_succ]
  go_wp2
  rw [rounds_succ]
  go_wp2
  rw [rounds_succ]
  go_wp2
  rw [rounds_succ]
  go_wp2
  rw [rounds_succ]
  go_wp2_with fail
  refine (ZZcountBelow_any _ _ _ _ _ _ (mod_bd _) (mod_bd _) (mod_bd _) (mod_bd _) (mod_bd _)).mono ?_
  rintro x w2 ⟨rfl, hbel⟩
  rw [cb_shift]
  have r0 : w2.cell? ⟨w.heap.size, 0, none⟩ = some (.int .u32 a) := (hbel.cell (by simp; omega)).trans (by go_simp)
  have r1 : w2.cell? ⟨w.heap.size, 1, none⟩ = some (.int .u32 b) := (hbel.cell (by simp; omega)).trans (by go_simp)
  have r2 : w2.cell? ⟨w.heap.size, 2, none⟩ = some (.int .u32 c) := (hbel.cell (by simp; omega)).trans (by go_simp)
  have r3 : w2.cell? ⟨w.heap.size, 3, none⟩ = some (.int .u32 d) := (hbel.cell (by simp; omega)).trans (by go_simp)
  have HC : Hid (Below w.heap.size w w2) := (HB.out.alloc (by omega) _).trans (hbel.mono (by simp; omega))
  clear hbel HB q0 q1 q2 q3 hz
  have HT := cb_wt a b c d k
  generalize cb a b c d k = C at *
  go_wp2_with fail
  go_loop [11, 12] (fun t i => ∃ j : Nat, j ≤ 4 ∧ i = .int .i64 j ∧ t = .int .u64 (wt a b c d k j)) (fun _ i => 4 - (intOf i).toNat)
  case atStart => exact ⟨0, Nat.zero_le _, rfl, rfl⟩
  case round =>
    obtain ⟨j, hj, rfl, rfl⟩ := hrel
    have hj5 : j = 0 ∨ j = 1 ∨ j = 2 ∨ j = 3 ∨ j = 4 := by omega
    clear hj
    rcases hj5 with rfl | rfl | rfl | rfl | rfl
    · have hB := wt_bd a b c d k 0
      rcases far a k with ⟨HD, g⟩ | ⟨HD, g1, g2⟩ | ⟨HD, g⟩
      · go_wp2
        exact ⟨⟨1, by omega, rfl, congrArg (Value.int .u64) (wt_same (j := 0) HD)⟩, by simp [intOf]⟩
      · go_wp2
        exact ⟨⟨1, by omega, rfl, congrArg (Value.int .u64) (wt_more (j := 0) HD)⟩, by simp [intOf]⟩
      · go_wp2
        exact ⟨⟨1, by omega, rfl, congrArg (Value.int .u64) (wt_same (j := 0) HD)⟩, by simp [intOf]⟩
    · have hB := wt_bd a b c d k 1
      rcases far b k with ⟨HD, g⟩ | ⟨HD, g1, g2⟩ | ⟨HD, g⟩
      · go_wp2
        exact ⟨⟨2, by omega, rfl, congrArg (Value.int .u64) (wt_same (j := 1) HD)⟩, by simp [intOf]⟩
      · go_wp2
        exact ⟨⟨2, by omega, rfl, congrArg (Value.int .u64) (wt_more (j := 1) HD)⟩, by simp [intOf]⟩
      · go_wp2
        exact ⟨⟨2, by omega, rfl, congrArg (Value.int .u64) (wt_same (j := 1) HD)⟩, by simp [intOf]⟩
    · have hB := wt_bd a b c d k 2
      rcases far c k with ⟨HD, g⟩ | ⟨HD, g1, g2⟩ | ⟨HD, g⟩
      · go_wp2
        exact ⟨⟨3, by omega, rfl, congrArg (Value.int .u64) (wt_same (j := 2) HD)⟩, by simp [intOf]⟩
      · go_wp2
        exact ⟨⟨3, by omega, rfl, congrArg (Value.int .u64) (wt_more (j := 2) HD)⟩, by simp [intOf]⟩
      · go_wp2
        exact ⟨⟨3, by omega, rfl, congrArg (Value.int .u64) (wt_same (j := 2) HD)⟩, by simp [intOf]⟩
    · have hB := wt_bd a b c d k 3
      rcases far d k with ⟨HD, g⟩ | ⟨HD, g1, g2⟩ | ⟨HD, g⟩
      · go_wp2
        exact ⟨⟨4, by omega, rfl, congrArg (Value.int .u64) (wt_same (j := 3) HD)⟩, by simp [intOf]⟩
      · go_wp2
        exact ⟨⟨4, by omega, rfl, congrArg (Value.int .u64) (wt_more (j := 3) HD)⟩, by simp [intOf]⟩
      · go_wp2
        exact ⟨⟨4, by omega, rfl, congrArg (Value.int .u64) (wt_same (j := 3) HD)⟩, by simp [intOf]⟩
    · have e1 : (C == wt a b c d k 4) = true := by rw [beq_iff_eq]; exact HT.out
      go_wp2
      go_ret
      exact ⟨rfl, HC.out⟩
end Go.Proofs.Qxb6613762aMods.Shift
