/-
  THE PLAIN LAWS ON NAMES: a name cut in two; the least limit. No walk here.
-/
import Derived.Test.Qxb6609126aModsName
import Derived.Lib.Strings
namespace Go.Proofs.Qxb6609126aMods.Nm

theorem low97 : low 97 = true := by decide

theorem nameL_cut (l : List UInt8) (lim : Int) (i : Nat) (h1 : 1 ≤ i) (h2 : i ≤ l.length) :
    nameL l lim = (decide ((l.length : Int) ≤ lim) && (nameL (l.take i) lim && nameL (97 :: l.drop i) lim)) := by
  cases l with
  | nil => simp at h2; omega
  | cons c r =>
    obtain ⟨j, rfl⟩ : ∃ j, i = j + 1 := ⟨i - 1, by omega⟩
    have hj : j ≤ r.length := by simpa using h2
    by_cases hl : ((c :: r).length : Int) ≤ lim
    · have e0 : decide (((c :: r).length : Int) ≤ lim) = true := by simpa using hl
      have e1 : decide ((r.length : Int) + 1 ≤ lim) = true := by simp at hl; simp; omega
      have e2 : decide (((r.take j).length : Int) + 1 ≤ lim) = true := by simp at hl; simp; omega
      have e3 : decide (((r.drop j).length : Int) + 1 ≤ lim) = true := by simp at hl; simp; omega
      have e4 : r.all tl = ((r.take j).all tl && (r.drop j).all tl) := by rw [← List.all_append, List.take_append_drop]
      rw [e0, List.take_succ_cons, List.drop_succ_cons]
      simp only [nameL, e1, e2, e3, e4, low97, Bool.true_and, Bool.and_assoc]
    · have e0 : decide (((c :: r).length : Int) ≤ lim) = false := by simpa using hl
      rw [e0, nameL_long _ _ (by omega)]
      rfl

theorem nameL_one (l : List UInt8) (lim : Int) (h : 0 < l.length) : nameL (l.take 1) lim = (decide (1 ≤ lim) && low l[0]) := by
  cases l with
  | nil => simp at h
  | cons c r => simp [nameL]

theorem ext_take (s : ByteArray) (i : Nat) : (s.extract 0 i).data.toList = s.data.toList.take i := by
  rw [Lib.extract_data]; simp
theorem ext_drop (s : ByteArray) (i : Nat) : (s.extract i s.size).data.toList = s.data.toList.drop i := by
  rw [Lib.extract_data, List.take_of_length_le]
  simp
theorem cat_data (a b : ByteArray) : (a ++ b).data.toList = a.data.toList ++ b.data.toList := by simp

theorem nameB_cut (s : ByteArray) (lim : Int) (i : Nat) (h1 : 1 ≤ i) (h2 : i ≤ s.size) :
    nameB s lim = (decide ((s.size : Int) ≤ lim) && (nameB (s.extract 0 i) lim && nameB ({ data := #[97] } ++ s.extract i s.size) lim)) := by
  unfold nameB
  rw [nameL_cut _ _ i h1 h2, ext_take, cat_data, ext_drop, len_eq]
  rfl

theorem nameB_one (s : ByteArray) (lim : Int) (h : 0 < s.size) : nameB (s.extract 0 1) lim = (decide (1 ≤ lim) && low s[0]) := by
  unfold nameB
  rw [ext_take, nameL_one _ _ h]
  rfl

/-- THE FIVE WAYS THROUGH THE FIRST LAW. -/
theorem cut_ways (s : ByteArray) (lim : Int) (i : Nat) (h1 : 1 ≤ i) (h2 : i ≤ s.size) (h0 : 0 < s.size) :
    (lim < 1 ∧ lim < s.size ∧ nameB s lim = false ∧ nameB (s.extract 0 1) lim = false) ∨
    (1 ≤ lim ∧ lim < s.size ∧ nameB s lim = false ∧ nameB (s.extract 0 1) lim = low s[0]) ∨
    (1 ≤ lim ∧ s.size ≤ lim ∧ nameB s lim = true ∧ nameB (s.extract 0 i) lim = true ∧ nameB ({ data := #[97] } ++ s.extract i s.size) lim = true ∧ nameB (s.extract 0 1) lim = low s[0]) ∨
    (1 ≤ lim ∧ s.size ≤ lim ∧ nameB s lim = false ∧ nameB (s.extract 0 i) lim = true ∧ nameB ({ data := #[97] } ++ s.extract i s.size) lim = false ∧ nameB (s.extract 0 1) lim = low s[0]) ∨
    (1 ≤ lim ∧ s.size ≤ lim ∧ nameB s lim = false ∧ nameB (s.extract 0 i) lim = false ∧ nameB (s.extract 0 1) lim = low s[0]) := by
  have hc := nameB_cut s lim i h1 h2
  have hf := nameB_one s lim h0
  by_cases hl : lim < 1
  · have e : decide (1 ≤ lim) = false := by simp; omega
    rw [e] at hf
    exact .inl ⟨hl, by omega, nameB_long (by omega), hf⟩
  · have e : decide (1 ≤ lim) = true := by simp; omega
    rw [e, Bool.true_and] at hf
    by_cases hs : lim < s.size
    · exact .inr (.inl ⟨by omega, hs, nameB_long hs, hf⟩)
    · have e2 : decide ((s.size : Int) ≤ lim) = true := by simp; omega
      rw [e2, Bool.true_and] at hc
      cases hH : nameB (s.extract 0 i) lim
      · rw [hH, Bool.false_and] at hc
        exact .inr (.inr (.inr (.inr ⟨by omega, by omega, hc, rfl, hf⟩)))
      · cases hT : nameB ({ data := #[97] } ++ s.extract i s.size) lim
        · rw [hH, hT] at hc
          exact .inr (.inr (.inr (.inl ⟨by omega, by omega, hc, rfl, rfl, hf⟩)))
        · rw [hH, hT] at hc
          exact .inr (.inr (.inl ⟨by omega, by omega, hc, rfl, rfl, hf⟩))

theorem size_take (s : ByteArray) (i : Nat) (h : s.size ≤ 1048576) : (s.extract 0 i).size ≤ maxLen := by
  have := len_eq (s.extract 0 i)
  rw [ext_take, List.length_take, len_eq] at this
  unfold maxLen; omega
theorem size_cat (s : ByteArray) (i : Nat) (h : s.size ≤ 1048576) : (({ data := #[97] } : ByteArray) ++ s.extract i s.size).size ≤ maxLen := by
  have := len_eq (({ data := #[97] } : ByteArray) ++ s.extract i s.size)
  rw [cat_data, ext_drop, List.length_append, List.length_drop, len_eq] at this
  have h1 : ({ data := #[97] } : ByteArray).size = 1 := rfl
  rw [h1, len_eq] at this
  unfold maxLen; omega
theorem size_self (s : ByteArray) (h : s.size ≤ 1048576) : s.size ≤ maxLen := by unfold maxLen; omega
end Go.Proofs.Qxb6609126aMods.Nm
