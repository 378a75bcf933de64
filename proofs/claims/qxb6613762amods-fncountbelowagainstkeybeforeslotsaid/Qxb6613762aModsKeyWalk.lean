/-
  THE WALK OF FnCountBelowAgainstKeyBeforeSlot (function 4).
-/
import Derived.Test.Qxb6613762aModsBelow
import Derived.Deep.RegionWith
namespace Go.Proofs.Qxb6613762aMods.Key
open Go.ChangeShapes Go.WideShapes Go.ChangeAt Go.RowKit
open Cb

/-- the j-th slot -/
def nth (a b c d : Int) : Nat → Int | 0 => a | 1 => b | 2 => c | _ => d
theorem nth_bd {a b c d : Int} (ha : 0 ≤ a ∧ a ≤ 4294967295) (hb : 0 ≤ b ∧ b ≤ 4294967295) (hc : 0 ≤ c ∧ c ≤ 4294967295) (hd : 0 ≤ d ∧ d ≤ 4294967295) (j : Nat) : 0 ≤ nth a b c d j ∧ nth a b c d j ≤ 4294967295 := by
  unfold nth; split <;> assumption

/-- what one slot x adds: to 'rev' (four times), to 'eq', to 'anti' -/
def rv (k : Int) (f : Nat → Int) : Nat → Int | 0 => 0 | j + 1 => rv k f j + bel k (f j)
def eqs (k : Int) (f : Nat → Int) : Nat → Int | 0 => 0 | j + 1 => eqs k f j + if f j = k then 1 else 0
def ans (k : Int) (f : Nat → Int) : Nat → Int | 0 => 0 | j + 1 => ans k f j + if (f j - k) % 4294967296 = 2147483648 then 1 else 0
theorem rv_bd (k : Int) (f : Nat → Int) (j : Nat) : 0 ≤ rv k f j ∧ rv k f j ≤ j := by
  induction j with
  | zero => simp [rv]
  | succ j ih => have := bel_bd k (f j); simp only [rv]; omega
theorem eqs_bd (k : Int) (f : Nat → Int) (j : Nat) : 0 ≤ eqs k f j ∧ eqs k f j ≤ j := by
  induction j with
  | zero => simp [eqs]
  | succ j ih => simp only [eqs]; split <;> omega
theorem ans_bd (k : Int) (f : Nat → Int) (j : Nat) : 0 ≤ ans k f j ∧ ans k f j ≤ j := by
  induction j with
  | zero => simp [ans]
  | succ j ih => simp only [ans]; split <;> omega
theorem cb_key (k x : Int) : cb k k k k x = 4 * bel k x := by unfold cb; omega

/-- what the slot at place j adds to the three counts -/
def Adds (k : Int) (f : Nat → Int) (j : Nat) (r q t : Int) : Prop := bel k (f j) = r ∧ (if f j = k then (1 : Int) else 0) = q ∧ (if (f j - k) % 4294967296 = 2147483648 then (1 : Int) else 0) = t
theorem more {k : Int} {f : Nat → Int} {j : Nat} {r q t : Int} (h : Hid (Adds k f j r q t)) :
    Hid (4 * rv k f j + 4 * r = 4 * rv k f (j + 1) ∧ eqs k f j + q = eqs k f (j + 1) ∧ ans k f j + t = ans k f (j + 1)) := by
  obtain ⟨h1, h2, h3⟩ := h.out
  refine ⟨?_, ?_, ?_⟩
  · simp only [rv]; omega
  · simp only [eqs]; omega
  · simp only [ans]; omega

/-- the four ways of one slot -/
theorem ways (f : Nat → Int) (j : Nat) (k : Int) (_hx : 0 ≤ f j ∧ f j ≤ 4294967295) (_hk : 0 ≤ k ∧ k ≤ 4294967295) :
    ((f j == k) = true ∧ ((f j - k) % 4294967296 == 2147483648) = false ∧ Hid (Adds k f j 0 1 0) ∧ cb k k k k (f j) = 0) ∨
    ((f j == k) = false ∧ ((f j - k) % 4294967296 == 2147483648) = true ∧ Hid (Adds k f j 1 0 1) ∧ cb k k k k (f j) = 4) ∨
    ((f j == k) = false ∧ ((f j - k) % 4294967296 == 2147483648) = false ∧ Hid (Adds k f j 0 0 0) ∧ cb k k k k (f j) = 0) ∨
    ((f j == k) = false ∧ ((f j - k) % 4294967296 == 2147483648) = false ∧ Hid (Adds k f j 1 0 0) ∧ cb k k k k (f j) = 4) := by
  have hc := cb_key k (f j)
  have hb : bel k (f j) = (k - f j) % 4294967296 / 2147483648 := rfl
  by_cases h1 : f j = k
  · refine .inl ⟨by rw [beq_iff_eq]; exact h1, by rw [beq_eq_false_iff_ne]; omega, ⟨by omega, by rw [if_pos h1], by rw [if_neg (by omega)]⟩, by omega⟩
  · have e1 : (f j == k) = false := by rw [beq_eq_false_iff_ne]; exact h1
    by_cases h2 : (f j - k) % 4294967296 = 2147483648
    · exact .inr (.inl ⟨e1, by rw [beq_iff_eq]; exact h2, ⟨by omega, by rw [if_neg h1], by rw [if_pos h2]⟩, by omega⟩)
    · have e2 : ((f j - k) % 4294967296 == 2147483648) = false := by rw [beq_eq_false_iff_ne]; exact h2
      by_cases h3 : bel k (f j) = 0
      · exact .inr (.inr (.inl ⟨e1, e2, ⟨h3, by rw [if_neg h1], by rw [if_neg h2]⟩, by omega⟩))
      · have h4 : bel k (f j) = 1 := by have := bel_bd k (f j); omega
        exact .inr (.inr (.inr ⟨e1, e2, ⟨h4, by rw [if_neg h1], by rw [if_neg h2]⟩, by omega⟩))

/-- slot by slot: the slot before the key, and the key before the slot -/
theorem both (x k : Int) (hx : 0 ≤ x ∧ x ≤ 4294967295) (hk : 0 ≤ k ∧ k ≤ 4294967295) :
    bel x k + bel k x = 1 + (if (x - k) % 4294967296 = 2147483648 then 1 else 0) - (if x = k then 1 else 0) := by
  unfold bel
  split <;> split <;> omega

theorem u64_eq {x y : Int} (h : x = y) : Value.int .u64 x = Value.int .u64 y := by rw [h]
theorem hide {p : Prop} (h : p) : Hid p := h
theorem unhide {p : Prop} (h : Hid p) : p := h
theorem fin_eq (a b c d k : Int) (ha : 0 ≤ a ∧ a ≤ 4294967295) (hb : 0 ≤ b ∧ b ≤ 4294967295) (hc : 0 ≤ c ∧ c ≤ 4294967295) (hd : 0 ≤ d ∧ d ≤ 4294967295) (hk : 0 ≤ k ∧ k ≤ 4294967295) :
    Hid (4 * cb a b c d k + 4 * rv k (nth a b c d) 4 = 4 * (4 + ans k (nth a b c d) 4 - eqs k (nth a b c d) 4)) := by
  have h1 := both a k ha hk
  have h2 := both b k hb hk
  have h3 := both c k hc hk
  have h4 := both d k hd hk
  show 4 * cb a b c d k + 4 * rv k (nth a b c d) 4 = 4 * (4 + ans k (nth a b c d) 4 - eqs k (nth a b c d) 4)
  simp only [cb, rv, ans, eqs, nth]
  omega
/-- what every round keeps of the call's own memory: the slots' box, the key's box (block K), all that was there before -/
structure Inv (a b c d k : Int) (K : Nat) (w wr : World) : Prop where
  s : ∀ j, j < 4 → wr.cell? ⟨w.heap.size, j, none⟩ = some (.int .u32 (nth a b c d j))
  t : ∀ j, j < 4 → wr.cell? ⟨K, j, none⟩ = some (.int .u32 k)
  z : K < wr.heap.size
  below : Below w.heap.size w wr

theorem Inv.call {a b c d k : Int} {K : Nat} {w wr w2 : World} (h : Inv a b c d k K w wr) (hw : w.heap.size < wr.heap.size) (hb : Below wr.drew.heap.size wr.drew w2) : Inv a b c d k K w w2 := by
  have hb' : Below wr.heap.size wr w2 := ⟨hb.os, hb.tape, hb.output, hb.size, hb.block⟩
  exact ⟨fun j hj => (hb'.cell hw).trans (h.s j hj), fun j hj => (hb'.cell h.z).trans (h.t j hj), Nat.lt_of_lt_of_le h.z hb'.size, h.below.trans (hb'.mono (Nat.le_of_lt hw))⟩

set_option maxHeartbeats 2000000 in
theorem walk (a b c d k : Int) (ha : 0 ≤ a ∧ a ≤ 4294967295) (hb : 0 ≤ b ∧ b ≤ 4294967295) (hc : 0 ≤ c ∧ c ≤ 4294967295) (hd : 0 ≤ d ∧ d ≤ 4294967295) (hk : 0 ≤ k ∧ k ≤ 4294967295) (w : World) :
    Calls Trym.prog 4 #[.agg #[.int .u32 a, .int .u32 b, .int .u32 c, .int .u32 d], .int .u32 k] w fun e w' => e = .returned (.bool true) ∧ Below w.heap.size w w' := by
  go_enter Trym.func4, Trym.ntmps4
  go_wp2_with fail
  refine (ZZcountBelow_any a b c d k _ ha hb hc hd hk).mono ?_
  rintro x w1 ⟨rfl, hbel⟩
  have hz : w.heap.size < w1.heap.size := by have := hbel.size; simp at this; omega
  have q0 : w1.cell? ⟨w.heap.size, 0, none⟩ = some (.int .u32 a) := (hbel.cell (by simp)).trans (by go_simp)
  have q1 : w1.cell? ⟨w.heap.size, 1, none⟩ = some (.int .u32 b) := (hbel.cell (by simp)).trans (by go_simp)
  have q2 : w1.cell? ⟨w.heap.size, 2, none⟩ = some (.int .u32 c) := (hbel.cell (by simp)).trans (by go_simp)
  have q3 : w1.cell? ⟨w.heap.size, 3, none⟩ = some (.int .u32 d) := (hbel.cell (by simp)).trans (by go_simp)
  have HB : Hid (Below w.heap.size w w1) := ((Below.refl _ _).alloc (Nat.le_refl _) _).trans (hbel.mono (by simp))
  clear hbel
  go_wp2_with fail
  have I0 : Inv a b c d k w1.heap.size w (w1.alloc (.cells #[.int .u32 k, .int .u32 k, .int .u32 k, .int .u32 k] 23)) := by
    refine ⟨?_, ?_, by simp, HB.out.alloc (by omega) _⟩
    · intro j hj
      have hj4 : j = 0 ∨ j = 1 ∨ j = 2 ∨ j = 3 := by omega
      rcases hj4 with rfl | rfl | rfl | rfl <;> go_simp <;> rfl
    · intro j hj
      have hj4 : j = 0 ∨ j = 1 ∨ j = 2 ∨ j = 3 := by omega
      rcases hj4 with rfl | rfl | rfl | rfl <;> go_simp
  generalize w1.heap.size = K at *
  clear q0 q1 q2 q3 HB
  have hC := cb_bd a b c d k
  have HF := fin_eq a b c d k ha hb hc hd hk
  generalize cb a b c d k = C at *
  go_loopw [7, 8, 9, 10] (fun r q t i wr => ∃ j : Nat, j ≤ 4 ∧ i = .int .i64 j ∧ r = .int .u64 (4 * rv k (nth a b c d) j) ∧ q = .int .u64 (eqs k (nth a b c d) j) ∧ t = .int .u64 (ans k (nth a b c d) j) ∧ Inv a b c d k K w wr) (fun _ _ _ i _ => 4 - (intOf i).toNat)
  case atStart => exact ⟨0, Nat.zero_le _, rfl, rfl, rfl, rfl, I0⟩
  case round =>
    obtain ⟨j, hj, rfl, rfl, rfl, rfl, hI⟩ := hrel
    have b1 := rv_bd k (nth a b c d) j
    have b2 := eqs_bd k (nth a b c d) j
    have b3 := ans_bd k (nth a b c d) j
    by_cases hlt : j < 4
    · have hx := hI.s j hlt
      have t0 := hI.t 0 (by omega)
      have t1 := hI.t 1 (by omega)
      have t2 := hI.t 2 (by omega)
      have t3 := hI.t 3 (by omega)
      have hwr : w.heap.size < wr.heap.size := Nat.lt_trans hz hI.z
      have HI := hide hI
      have hxb := nth_bd ha hb hc hd j
      clear I0 hI HF
      go_wp2_with fail
      go_region_with (go_at_call 7; refine (ZZcountBelow_any k k k k _ _ hk hk hk hk hxb).mono ?_; rintro e w2 ⟨rfl, hb2⟩)
      all_goals
        have I2 := HI.out.call hwr hb2
        have hx2 := I2.s j hlt
        have H2 := hide I2
        clear I2 hb2 HI hx t0 t1 t2 t3
        rcases ways (nth a b c d) j k hxb hk with ⟨g1, g2, HG, g3⟩ | ⟨g1, g2, HG, g3⟩ | ⟨g1, g2, HG, g3⟩ | ⟨g1, g2, HG, g3⟩
        all_goals
          have HR := more HG
          go_wp2
          go_roundw
          case rel => exact ⟨j + 1, by omega, by go_num, u64_eq (by have := HR.out.1; omega), u64_eq (by have := HR.out.2.1; omega), u64_eq (by have := HR.out.2.2; omega), H2.out⟩
          case measure => simp [intOf]; omega
    · have hj4 : j = 4 := by omega
      subst hj4
      have e1 : (4 * C + 4 * rv k (nth a b c d) 4 == 4 * (4 + ans k (nth a b c d) 4 - eqs k (nth a b c d) 4)) = true := by rw [beq_iff_eq]; exact HF.out
      have HI := hide hI
      clear hI I0 HF
      go_wp2
      go_ret
      exact ⟨rfl, HI.out.below⟩
end Go.Proofs.Qxb6613762aMods.Key
