/-
  The proof of Rows.FnIsNameLeastLimitSaid: the walk out of the contracts of ZZisName and b1IsLower (Qxb6609126aModsName) and the plain law on names (Qxb6609126aModsCut); the frame by the tool of the kit.
-/
import Derived.Test.Qxb6609126aModsRows
import Derived.Test.Qxb6609126aModsCut
import Derived.WalkKit
import Derived.ProofKit
import Derived.OpenShut
import Derived.ShutString
import Derived.WalkSpells
namespace Go.Proofs.Qxb6609126aMods.fnIsNameLeastLimit
open Go.ChangeShapes Go.WideShapes Go.ChangeAt Go.RowKit
open Go.ChangeMaps (open_string shut_string)
open Nm
set_option linter.unusedVariables false      -- a walk need not use every 'w<i>' (that an integer argument fits its kind)

/-- THE THREE WAYS THROUGH THE LAW, s not empty. -/
theorem least_ways (s : ByteArray) (lim : Int) (h0 : 0 < s.size) :
    (lim < 1 ∧ lim < s.size ∧ nameB s lim = false ∧ nameB (s.extract 0 1) lim = false) ∨
    (1 ≤ lim ∧ lim < s.size ∧ nameB s lim = false ∧ nameB (s.extract 0 1) lim = low s[0]) ∨
    (1 ≤ lim ∧ s.size ≤ lim ∧ nameB s lim = nameB s (s.size : Int) ∧ nameB (s.extract 0 1) lim = low s[0]) := by
  have hf := nameB_one s lim h0
  by_cases hl : lim < 1
  · have e : decide (1 ≤ lim) = false := by simp; omega
    rw [e] at hf
    exact .inl ⟨hl, by omega, nameB_long (by omega), hf⟩
  · have e : decide (1 ≤ lim) = true := by simp; omega
    rw [e, Bool.true_and] at hf
    by_cases hs : lim < s.size
    · exact .inr (.inl ⟨by omega, hs, nameB_long hs, hf⟩)
    · refine .inr (.inr ⟨by omega, by omega, ?_, hf⟩)
      unfold nameB
      rw [← len_eq]
      have hl2 : (s.data.toList.length : Int) ≤ lim := by rw [len_eq]; omega
      cases e : s.data.toList with
      | nil => rfl
      | cons c r =>
        rw [e] at hl2
        have d1 : decide ((r.length : Int) + 1 ≤ lim) = true := by simp at hl2; simp; omega
        simp [nameL, d1]

theorem own : ownKnob Trym.prog.godebug = none := by kernel_rfl

/-! ### STEP 1: THE WALK: the Go text returns true. 'Grown w w'': the world has at most new blocks (Derived/RowKit3.lean). Part the cases AHEAD of 'go_enter' where a test parts the walk; take each callee by a contract of your own. -/
set_option maxHeartbeats 4000000 in
theorem walk (a0 : ByteArray) (a1 : Int) (w0 : a0.size ≤ maxLen) (w1 : (Lit.int .i64 a1).wf = true) (w : World) :
    Calls Trym.prog 6 #[.string a0, .int .i64 a1] w fun e w' => e = .returned (.bool true) ∧ Grown w w' := by
  unfold maxLen at w0
  by_cases hn : (1048576 : Int) < a0.size
  · go_enter Trym.func6, Trym.ntmps6
    go_wp2
    go_ret
    exact ⟨rfl, Grown.refl _⟩
  have hm : a0.size ≤ 1048576 := by omega
  have hL : nameB a0 ((a0.size : Int) - 1) = false := nameB_long (by omega)
  by_cases h0 : a0.size = 0
  · have e1 : nameB a0 a1 = false := nameB_empty a1 h0
    have e2 : nameB a0 (a0.size : Int) = false := nameB_empty _ h0
    have hz : a0.size ≤ 0 := by omega
    clear h0
    by_cases hl : (a0.size : Int) ≤ a1
    all_goals
      go_enter Trym.func6, Trym.ntmps6
      go_wp2_with (first | (go_at_call 12; refine (ZZisName_any _ _ _ (by first | exact size_self _ hm | exact size_take _ _ hm)).mono ?_; rintro e w' ⟨rfl, rfl⟩) | go_in)
      go_ret
      exact ⟨rfl, Grown.refl _⟩
  have hz0 : 0 < a0.size := by omega
  clear h0
  rcases least_ways a0 a1 hz0 with ⟨k1, k2, p1, p2⟩ | ⟨k1, k2, p1, p2⟩ | ⟨k1, k2, p1, p2⟩
  all_goals
    go_enter Trym.func6, Trym.ntmps6
    go_wp2_with (first | (go_at_call 12; refine (ZZisName_any _ _ _ (by first | exact size_self _ hm | exact size_take _ _ hm)).mono ?_; rintro e w' ⟨rfl, rfl⟩) | (go_at_call 13; refine (isLower_any _ _).mono ?_; rintro e w' ⟨rfl, rfl⟩) | go_in)
    go_ret
    exact ⟨rfl, Grown.refl _⟩

/-! ### THE ROW's STEP: WRITTEN OUT: LEAVE IT -/
set_option maxRecDepth 100000 in
theorem lifted (os : Os) (started : os.Started) (H : Type) (enc : TypeId × Value → H) :
    ReturnsInHanded {} Trym.checked os 6 .any (Rows.fnIsNameLeastLimitSpec.pre6 enc Trym.prog Trym.f6 Rows.fnIsNameLeastLimitRow.domain false) (Rows.fnIsNameLeastLimitSpec.post enc Trym.prog Trym.f6 false true false false) := by
  refine returnsInHanded_of_change (C := Trym.checked) own started (by kernel_rfl) Trym.func6
    (ChangeSpec.witness6 (enc := enc) (C := Trym.checked) false ⟨#[], #[.string ByteArray.empty, .int .i64 0], []⟩ 8 (by kernel_rfl) (by kernel_rfl) (by kernel_rfl) (by kernel_rfl)) ?_
  intro W base args ds gs before hval0 hW hcnd _
  have hval : ∀ (j : Nat) t v, Trym.f6.params[j]? = some t → args[j]? = some v → Value.okWide Trym.prog W .any base t v := hval0
  have hW' := hW
  obtain ⟨p, q, hA0, hV, rfl, hfz, hnd⟩ := hW
  have hA : DataW.TrodAll enc Trym.prog W 0 (fun _ => true) true Trym.f6.params.toList args.toList ds p := hA0
  rw [Trym.params6] at hA hval
  obtain ⟨v0, vs0, d0, ds0, p0, q0, hargs, rfl, rfl, h0, r0⟩ := trodAll_cons hA
  obtain ⟨v1, vs1, d1, ds1, p1, q1, rfl, rfl, rfl, h1, r1⟩ := trodAll_cons r0
  obtain ⟨rfl, rfl, rfl⟩ := trodAll_nil r1
  obtain rfl : args = #[v0, v1] := by cases args; simp_all
  obtain ⟨rfl, rfl⟩ := trodVars_none hV
  obtain ⟨a0, rfl, rfl, rfl, w0⟩ := open_string Trym.underlying9 (hval 0 9 v0 rfl rfl) h0
  obtain ⟨a1, rfl, rfl, rfl, w1⟩ := open_int Trym.underlying3 (hval 1 3 v1 rfl rfl) h1
  clear hA0 hval0
  simp only [List.append_nil] at hW'
  refine (walk a0 a1 w0 w1 W).mono fun e W' ⟨he, hg⟩ => ?_
  subst he
  exact ⟨_, rfl, post_of_same (pa := []) (pv := []) hW' (fun _ _ _ => (trodAll_cons_mk (shut_bool Trym.underlying4 _) trodAll_mk0)) (fun sp _ => (trodAll_cons_mk (shut_string Trym.underlying9 w0) (trodAll_cons_mk (shut_int Trym.underlying3 w1) trodAll_mk0))) (fun _ _ => rfl) rfl
    (hg.frame _) hg.2.1 (ok_one (by kernel_rfl) rfl (okWide_bool_mk Trym.underlying4 _))⟩

theorem over : Rows.fnIsNameLeastLimitRow.holds Trym.pinned (OpenSpec.ofChange Rows.fnIsNameLeastLimitSpec) :=
  OpenClaim.holds_of_wide 6 Trym.f6 rfl rfl rfl rfl rfl rfl rfl ⟨rfl, rfl, rfl, rfl, rfl⟩ rfl rfl rfl rfl rfl (by kernel_rfl) Trym.func6 (by kernel_rfl)
    (of_decide_eq_true (by kernel_rfl)) (by unfold Func.isWrapper; first | (rw [if_pos (by decide +kernel)]; kernel_rfl) | (rw [if_neg (by decide +kernel)]; exact ⟨rfl, rfl⟩))
    (fun os started H enc _ => lifted os started H enc)

/-- ████ THE STATEMENT ████ -/
theorem proved : Rows.FnIsNameLeastLimitSaid :=
  over
end Go.Proofs.Qxb6609126aMods.fnIsNameLeastLimit
