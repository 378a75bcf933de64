/-
  The proof of Rows.FnPortRangeCountInWindowSaid: the walk out of the contract of ZZportRangeContains (Qxb6608723aModsCon) and the plain law (Qxb6608723aModsCount); the frame by the tool of the kit.
-/
import Derived.Test.Qxb6608723aModsRows
import Derived.Test.Qxb6608723aModsCount
import Derived.WalkKit
import Derived.ProofKit
import Derived.OpenShut
import Derived.ShutString
namespace Go.Proofs.Qxb6608723aMods.fnPortRangeCountInWindow
open Go.ChangeShapes Go.WideShapes Go.ChangeAt Go.RowKit
open Go.ChangeMaps (open_string shut_string)
open Con Count
set_option linter.unusedVariables false      -- a walk need not use every 'w<i>' (that an integer argument fits its kind)

theorem ret_beq {a b : Int} (h : a = b) : Ending.returned (.bool (a == b)) = .returned (.bool true) := by rw [h, beq_self_eq_true]

theorem own : ownKnob Trym.prog.godebug = none := by kernel_rfl

/-! ### STEP 1: THE WALK: the Go text returns true. 'Grown w w'': the world has at most new blocks (Derived/RowKit3.lean). Part the cases AHEAD of 'go_enter' where a test parts the walk; take each callee by a contract of your own. -/
set_option maxRecDepth 100000 in
theorem walk (a0 : Int) (a1 : Int) (a2 : Int) (w0 : (Lit.int .i64 a0).wf = true) (w1 : (Lit.int .i64 a1).wf = true) (w2 : (Lit.int .i64 a2).wf = true) (w : World) :
    Calls Trym.prog 4 #[.int .i64 a0, .int .i64 a1, .int .i64 a2] w fun e w' => e = .returned (.bool true) ∧ Grown w w' := by
  by_cases c1 : 9223372036854775552 < a2
  · go_enter Trym.func4, Trym.ntmps4
    go_wp2
    go_ret
    exact ⟨rfl, Grown.refl _⟩
  have b2 := (bounds_i64 w2).1
  go_enter Trym.func4, Trym.ntmps4
  go_wp2
  go_loopw [7, 8] (fun c i wr => ∃ k : Nat, k ≤ 256 ∧ i = .int .i64 k ∧ c = .int .i64 (cnt a0 a1 a2 k) ∧ Grown w wr) (fun _ i _ => 256 - (intOf i).toNat)
  case atStart => exact ⟨0, Nat.zero_le _, rfl, rfl, Grown.refl _⟩
  case round =>
    obtain ⟨k, hk, rfl, rfl, hgr⟩ := hrel
    have hb := cnt_bd a0 a1 a2 k
    by_cases hlt : k < 256
    · cases hc : conB a0 a1 (a2 + k)
      · have HS : Hid (cnt a0 a1 a2 (k + 1) = cnt a0 a1 a2 k) := cnt_no hc
        go_wp2_with (go_at_call 5; refine (con_any _ _ _ _).mono ?_; rintro e w' ⟨rfl, hg⟩)
        go_roundw
        case rel => exact ⟨k + 1, by omega, by go_num, by rw [HS.out], grown_trans hgr (by assumption)⟩
        case measure => simp [intOf]; omega
      · have HS : Hid (cnt a0 a1 a2 (k + 1) = cnt a0 a1 a2 k + 1) := cnt_yes hc
        go_wp2_with (go_at_call 5; refine (con_any _ _ _ _).mono ?_; rintro e w' ⟨rfl, hg⟩)
        go_roundw
        case rel => exact ⟨k + 1, by omega, by go_num, by rw [HS.out], grown_trans hgr (by assumption)⟩
        case measure => simp [intOf]; omega
    · have hk2 : k = 256 := by omega
      subst hk2
      have hq := cnt_eq a0 a1 a2 256
      generalize cnt a0 a1 a2 256 = C at *
      have Hq : Hid (C = max 0 (min a1 (a2 + 256 - 1) - max a0 a2 + 1)) := by
        have : ((256 : Nat) : Int) = 256 := rfl
        rw [this] at hq
        exact hq
      clear hq
      by_cases q1 : a0 < a2
      · by_cases q2 : a2 + 255 < a1
        · go_wp2
          go_ret
          exact ⟨ret_beq (by have := Hq.out; omega), hgr⟩
        · by_cases q3 : a2 ≤ a1
          · go_wp2
            go_ret
            exact ⟨ret_beq (by have := Hq.out; omega), hgr⟩
          · go_wp2
            go_ret
            exact ⟨ret_beq (by have := Hq.out; omega), hgr⟩
      · by_cases q2 : a2 + 255 < a1
        · by_cases q3 : a0 ≤ a2 + 255
          · go_wp2
            go_ret
            exact ⟨ret_beq (by have := Hq.out; omega), hgr⟩
          · go_wp2
            go_ret
            exact ⟨ret_beq (by have := Hq.out; omega), hgr⟩
        · by_cases q3 : a0 ≤ a1
          · go_wp2
            go_ret
            exact ⟨ret_beq (by have := Hq.out; omega), hgr⟩
          · go_wp2
            go_ret
            exact ⟨ret_beq (by have := Hq.out; omega), hgr⟩

/-! ### THE ROW's STEP: WRITTEN OUT: LEAVE IT -/
set_option maxRecDepth 100000 in
theorem lifted (os : Os) (started : os.Started) (H : Type) (enc : TypeId × Value → H) :
    ReturnsInHanded {} Trym.checked os 4 .any (Rows.fnPortRangeCountInWindowSpec.pre6 enc Trym.prog Trym.f4 Rows.fnPortRangeCountInWindowRow.domain false) (Rows.fnPortRangeCountInWindowSpec.post enc Trym.prog Trym.f4 false true false false) := by
  refine returnsInHanded_of_change (C := Trym.checked) own started (by kernel_rfl) Trym.func4
    (ChangeSpec.witness6 (enc := enc) (C := Trym.checked) false ⟨#[], #[.int .i64 0, .int .i64 0, .int .i64 0], []⟩ 8 (by kernel_rfl) (by kernel_rfl) (by kernel_rfl) (by kernel_rfl)) ?_
  intro W base args ds gs before hval0 hW hcnd _
  have hval : ∀ (j : Nat) t v, Trym.f4.params[j]? = some t → args[j]? = some v → Value.okWide Trym.prog W .any base t v := hval0
  have hW' := hW
  obtain ⟨p, q, hA0, hV, rfl, hfz, hnd⟩ := hW
  have hA : DataW.TrodAll enc Trym.prog W 0 (fun _ => true) true Trym.f4.params.toList args.toList ds p := hA0
  rw [Trym.params4] at hA hval
  obtain ⟨v0, vs0, d0, ds0, p0, q0, hargs, rfl, rfl, h0, r0⟩ := trodAll_cons hA
  obtain ⟨v1, vs1, d1, ds1, p1, q1, rfl, rfl, rfl, h1, r1⟩ := trodAll_cons r0
  obtain ⟨v2, vs2, d2, ds2, p2, q2, rfl, rfl, rfl, h2, r2⟩ := trodAll_cons r1
  obtain ⟨rfl, rfl, rfl⟩ := trodAll_nil r2
  obtain rfl : args = #[v0, v1, v2] := by cases args; simp_all
  obtain ⟨rfl, rfl⟩ := trodVars_none hV
  obtain ⟨a0, rfl, rfl, rfl, w0⟩ := open_int Trym.underlying3 (hval 0 3 v0 rfl rfl) h0
  obtain ⟨a1, rfl, rfl, rfl, w1⟩ := open_int Trym.underlying3 (hval 1 3 v1 rfl rfl) h1
  obtain ⟨a2, rfl, rfl, rfl, w2⟩ := open_int Trym.underlying3 (hval 2 3 v2 rfl rfl) h2
  clear hA0 hval0
  simp only [List.append_nil] at hW'
  refine (walk a0 a1 a2 w0 w1 w2 W).mono fun e W' ⟨he, hg⟩ => ?_
  subst he
  exact ⟨_, rfl, post_of_same (pa := []) (pv := []) hW' (fun _ _ _ => (trodAll_cons_mk (shut_bool Trym.underlying4 _) trodAll_mk0)) (fun sp _ => (trodAll_cons_mk (shut_int Trym.underlying3 w0) (trodAll_cons_mk (shut_int Trym.underlying3 w1) (trodAll_cons_mk (shut_int Trym.underlying3 w2) trodAll_mk0)))) (fun _ _ => rfl) rfl
    (hg.frame _) hg.2.1 (ok_one (by kernel_rfl) rfl (okWide_bool_mk Trym.underlying4 _))⟩

theorem over : Rows.fnPortRangeCountInWindowRow.holds Trym.pinned (OpenSpec.ofChange Rows.fnPortRangeCountInWindowSpec) :=
  OpenClaim.holds_of_wide 4 Trym.f4 rfl rfl rfl rfl rfl rfl rfl ⟨rfl, rfl, rfl, rfl, rfl⟩ rfl rfl rfl rfl rfl (by kernel_rfl) Trym.func4 (by kernel_rfl)
    (of_decide_eq_true (by kernel_rfl)) (by unfold Func.isWrapper; first | (rw [if_pos (by decide +kernel)]; kernel_rfl) | (rw [if_neg (by decide +kernel)]; exact ⟨rfl, rfl⟩))
    (fun os started H enc _ => lifted os started H enc)

/-- ████ THE STATEMENT ████ -/
theorem proved : Rows.FnPortRangeCountInWindowSaid :=
  over
end Go.Proofs.Qxb6608723aMods.fnPortRangeCountInWindow
