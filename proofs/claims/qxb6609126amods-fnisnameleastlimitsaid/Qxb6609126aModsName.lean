/-
  THE CALLEES OF BOTH LAWS: isName (16), ZZisName (12), b1IsLower (13), the two byte bounds (11, 14).
-/
import Derived.Test.Qxb6609126aModsRows
import Derived.WalkKit
import Derived.ProofKit
import Derived.OpenShut
import Derived.ShutString
import Derived.WalkSpells
namespace Go.Proofs.Qxb6609126aMods.Nm
open Go.ChangeShapes Go.WideShapes Go.ChangeAt Go.RowKit

/-- a lower-case letter -/
def low (c : UInt8) : Bool := decide (97 ≤ (c.toNat : Int) ∧ (c.toNat : Int) ≤ 122)
/-- a byte that may stand behind a name's first -/
def tl (c : UInt8) : Bool := decide ((97 ≤ (c.toNat : Int) ∧ (c.toNat : Int) ≤ 122) ∨ (48 ≤ (c.toNat : Int) ∧ (c.toNat : Int) ≤ 57) ∨ (c.toNat : Int) = 95)
/-- a name of at most lim bytes -/
def nameL : List UInt8 → Int → Bool
  | [], _ => false
  | c :: r, lim => decide ((r.length : Int) + 1 ≤ lim) && (low c && r.all tl)
def nameB (s : ByteArray) (lim : Int) : Bool := nameL s.data.toList lim

theorem nameL_long (l : List UInt8) (lim : Int) (h : lim < l.length) : nameL l lim = false := by
  cases l with
  | nil => rfl
  | cons c r =>
    simp only [List.length_cons] at h
    have : decide ((r.length : Int) + 1 ≤ lim) = false := by simp; omega
    simp [nameL, this]

theorem nameL_first (l : List UInt8) (lim : Int) (h0 : 0 < l.length) (h : low l[0] = false) : nameL l lim = false := by
  cases l with
  | nil => rfl
  | cons c r =>
    simp at h
    simp [nameL, h]

theorem nameL_bad (l : List UInt8) (lim : Int) (k : Nat) (h1 : 1 ≤ k) (hk : k < l.length) (h : tl l[k] = false) : nameL l lim = false := by
  cases l with
  | nil => rfl
  | cons c r =>
    obtain ⟨j, rfl⟩ : ∃ j, k = j + 1 := ⟨k - 1, by omega⟩
    simp only [List.getElem_cons_succ] at h
    have hj : j < r.length := by simpa using hk
    have : r.all tl = false := by
      rw [List.all_eq_false]
      exact ⟨r[j], List.getElem_mem hj, by simp [h]⟩
    simp [nameL, this]

theorem nameL_good (l : List UInt8) (lim : Int) (h0 : 0 < l.length) (hl : (l.length : Int) ≤ lim) (h : low l[0] = true) (ht : ∀ j (hj : j < l.length), 1 ≤ j → tl l[j] = true) : nameL l lim = true := by
  cases l with
  | nil => simp at h0
  | cons c r =>
    simp at h
    have : r.all tl = true := by
      rw [List.all_eq_true]
      intro x hx
      obtain ⟨j, hj, rfl⟩ := List.getElem_of_mem hx
      have := ht (j + 1) (by simpa using hj) (by omega)
      simpa using this
    have h2 : decide ((r.length : Int) + 1 ≤ lim) = true := by simp at hl; simp; omega
    simp [nameL, this, h, h2]

theorem len_eq (s : ByteArray) : s.data.toList.length = s.size := rfl

theorem nameB_empty {s : ByteArray} (lim : Int) (h : s.size = 0) : nameB s lim = false := by
  have : s.data.toList = [] := List.eq_nil_of_length_eq_zero (by rw [len_eq]; exact h)
  simp [nameB, this, nameL]
theorem nameB_long {s : ByteArray} {lim : Int} (h : lim < s.size) : nameB s lim = false := nameL_long _ _ (by rw [len_eq]; exact h)
theorem nameB_first {s : ByteArray} (lim : Int) (h0 : 0 < s.size) (h : low s[0] = false) : nameB s lim = false := nameL_first _ _ h0 h
theorem nameB_bad {s : ByteArray} (lim : Int) (k : Nat) (h1 : 1 ≤ k) (hk : k < s.size) (h : tl s[k] = false) : nameB s lim = false := nameL_bad _ _ k h1 hk h
theorem nameB_good {s : ByteArray} {lim : Int} (h0 : 0 < s.size) (hl : (s.size : Int) ≤ lim) (h : low s[0] = true) (ht : ∀ j (hj : j < s.size), 1 ≤ j → tl s[j] = true) : nameB s lim = true := nameL_good _ _ h0 hl h ht

theorem low_yes {c : UInt8} (h1 : 97 ≤ (c.toNat : Int)) (h2 : (c.toNat : Int) ≤ 122) : low c = true := by simp [low, h1, h2]
theorem low_lt {c : UInt8} (h1 : (c.toNat : Int) < 97) : low c = false := by simp [low]; omega
theorem low_gt {c : UInt8} (h1 : 122 < (c.toNat : Int)) : low c = false := by simp [low]; omega

theorem empty_true {s : ByteArray} (h : s.size = 0) : s.toList.isEmpty = true := by
  rw [ByteArray.toList_eq, List.isEmpty_iff]
  exact List.eq_nil_of_length_eq_zero (by rw [len_eq]; exact h)
theorem empty_false {s : ByteArray} (h : 0 < s.size) : s.toList.isEmpty = false := by
  rw [ByteArray.toList_eq]
  cases e : s.data.toList with
  | nil => have := len_eq s; rw [e] at this; simp at this; omega
  | cons a b => rfl

theorem hide {p : Prop} (h : p) : Hid p := h
theorem unhide {p : Prop} (h : Hid p) : p := h

theorem ret_false {b : Bool} (h : b = false) : Ending.returned (.bool false) = .returned (.bool b) := by rw [h]
theorem ret_true {b : Bool} (h : b = true) : Ending.returned (.bool true) = .returned (.bool b) := by rw [h]

theorem tl_inv {c : UInt8} (h : tl c = true) : (97 ≤ (c.toNat : Int) ∧ (c.toNat : Int) ≤ 122) ∨ (48 ≤ (c.toNat : Int) ∧ (c.toNat : Int) ≤ 57) ∨ (95 ≤ (c.toNat : Int) ∧ (c.toNat : Int) ≤ 95 ∧ ((c.toNat : Int) == 95) = true) := by
  simp only [tl, decide_eq_true_eq] at h
  rcases h with h | h | h
  · exact .inl h
  · exact .inr (.inl h)
  · exact .inr (.inr ⟨by omega, by omega, by rw [beq_iff_eq]; exact h⟩)
theorem tl_not {c : UInt8} (h : ¬ tl c = true) : ((c.toNat : Int) == 95) = false ∧ ((c.toNat : Int) < 48 ∨ (57 < (c.toNat : Int) ∧ (c.toNat : Int) < 97 ∧ decide ((c.toNat : Int) ≤ 57) = false) ∨ (122 < (c.toNat : Int) ∧ decide ((c.toNat : Int) ≤ 57) = false ∧ decide ((c.toNat : Int) ≤ 122) = false)) := by
  simp only [tl, decide_eq_true_eq] at h
  refine ⟨by rw [beq_eq_false_iff_ne]; omega, ?_⟩
  by_cases h1 : (c.toNat : Int) < 48
  · exact .inl h1
  · by_cases h2 : (c.toNat : Int) < 97
    · exact .inr (.inl ⟨by omega, h2, by simp; omega⟩)
    · exact .inr (.inr ⟨by omega, by simp; omega, by simp; omega⟩)
theorem step {s : ByteArray} {k : Nat} {hk : k < s.size} (HT : Hid (∀ j (hj : j < s.size), 1 ≤ j → j < k → tl s[j] = true)) (h : tl s[k] = true) : Hid (∀ j (hj : j < s.size), 1 ≤ j → j < k + 1 → tl s[j] = true) := by
  intro j hj h1 h2
  by_cases e : j = k
  · subst e; exact h
  · exact HT.out j hj h1 (by omega)

set_option maxHeartbeats 1000000 in
theorem isName_any (s : ByteArray) (lim : Int) (w : World) (hs : s.size ≤ maxLen) :
    Calls Trym.prog 16 #[.string s, .int .i64 lim] w fun e w' => e = .returned (.bool (nameB s lim)) ∧ w' = w := by
  unfold maxLen at hs
  by_cases h0 : s.size = 0
  · have he := empty_true h0
    have HF := hide (nameB_empty lim h0)
    clear h0
    go_enter Trym.func16, Trym.ntmps16
    go_wp2
    go_ret
    exact ⟨ret_false (unhide HF), rfl⟩
  have hp : 0 < s.size := by omega
  have he := empty_false hp
  clear h0
  by_cases hl : lim < s.size
  · have HF := hide (nameB_long hl)
    go_enter Trym.func16, Trym.ntmps16
    go_wp2
    go_ret
    exact ⟨ret_false (unhide HF), rfl⟩
  by_cases h1 : (s[0].toNat : Int) < 97
  · have HF := hide (nameB_first lim hp (low_lt h1))
    go_enter Trym.func16, Trym.ntmps16
    go_wp2
    go_ret
    exact ⟨ret_false (unhide HF), rfl⟩
  by_cases h2 : (122 : Int) < (s[0].toNat : Int)
  · have HF := hide (nameB_first lim hp (low_gt h2))
    go_enter Trym.func16, Trym.ntmps16
    go_wp2
    go_ret
    exact ⟨ret_false (unhide HF), rfl⟩
  have HL := hide (low_yes (c := s[0]) (by omega) (by omega))
  go_enter Trym.func16, Trym.ntmps16
  go_wp2
  go_loop [5] (fun i => ∃ k : Nat, 1 ≤ k ∧ k ≤ s.size ∧ i = .int .i64 k ∧ Hid (∀ j (hj : j < s.size), 1 ≤ j → j < k → tl s[j] = true)) (fun i => s.size - (intOf i).toNat)
  case atStart => exact ⟨1, Nat.le_refl _, hp, rfl, hide (fun j _ h1 h2 => by omega)⟩
  case round =>
    obtain ⟨k, hk1, hk, rfl, HT⟩ := hrel
    by_cases hlt : k < s.size
    · by_cases good : tl s[k] = true
      · have HN := hide (step HT good)
        rcases tl_inv good with ⟨g1, g2⟩ | ⟨g1, g2⟩ | ⟨g1, g2, g3⟩
        all_goals
          clear good
          go_wp2
          go_round
          case rel => exact ⟨k + 1, by omega, by omega, by go_num, unhide HN⟩
          case measure => simp [intOf]; omega
      · have HF := hide (nameB_bad lim k hk1 hlt (by simpa using good))
        obtain ⟨g0, gg⟩ := tl_not good
        rcases gg with g1 | ⟨g1, g2, g3⟩ | ⟨g1, g2, g3⟩
        all_goals
          clear good
          go_wp2
          go_ret
          exact ⟨ret_false (unhide HF), rfl⟩
    · have HF := hide (nameB_good hp (by omega) (unhide HL) (fun j hj h1 => unhide HT j hj h1 (by omega)))
      go_wp2
      go_ret
      exact ⟨ret_true (unhide HF), rfl⟩

theorem ZZisName_any (s : ByteArray) (lim : Int) (w : World) (hs : s.size ≤ maxLen) :
    Calls Trym.prog 12 #[.string s, .int .i64 lim] w fun e w' => e = .returned (.bool (nameB s lim)) ∧ w' = w := by
  go_enter Trym.func12, Trym.ntmps12
  go_wp2_with (go_at_call 16; refine (isName_any _ _ _ hs).mono ?_; rintro e w' ⟨rfl, rfl⟩)
  go_ret
  exact ⟨rfl, rfl⟩

theorem isLower_any (c : UInt8) (w : World) :
    Calls Trym.prog 13 #[.int .u8 (c.toNat : Int)] w fun e w' => e = .returned (.bool (low c)) ∧ w' = w := by
  by_cases h1 : 97 ≤ (c.toNat : Int)
  · by_cases h2 : (c.toNat : Int) ≤ 122
    · have HF := hide (low_yes h1 h2)
      go_enter Trym.func13, Trym.ntmps13
      go_wp2
      go_ret
      exact ⟨ret_true (unhide HF), rfl⟩
    · have HF := hide (low_gt (c := c) (by omega))
      go_enter Trym.func13, Trym.ntmps13
      go_wp2
      go_ret
      exact ⟨ret_false (unhide HF), rfl⟩
  · have HF := hide (low_lt (c := c) (by omega))
    go_enter Trym.func13, Trym.ntmps13
    go_wp2
    go_ret
    exact ⟨ret_false (unhide HF), rfl⟩
end Go.Proofs.Qxb6609126aMods.Nm
