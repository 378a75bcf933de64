/-
  The proof of Rows.FnCountBelowAgainstKeyBeforeSlotSaid: the walk is Qxb6613762aModsKeyWalk's; the frame is the template's, the array by value opened as in the kit's IdRangearrayProofs.
-/
import Derived.Test.Qxb6613762aModsRows
import Derived.Test.Qxb6613762aModsKeyWalk
import Derived.WalkKit
import Derived.ProofKit
import Derived.OpenShut
import Derived.Laws.IdiomArrays
namespace Go.Proofs.Qxb6613762aMods.fnCountBelowAgainstKeyBeforeSlot
open Go.ChangeShapes Go.WideShapes Go.ChangeAt Go.RowKit
open Key (walk)

theorem own : ownKnob Trym.prog.godebug = none := by kernel_rfl
theorem cells22 : Trym.prog.cellsOf 22 = 1 := by kernel_rfl
theorem cells23 : Trym.prog.cellsOf 23 = 4 := by kernel_rfl

theorem list4 {α : Type} (l : List α) (h : (⟨l⟩ : Array α).size = 4) : ∃ a b c d, l = [a, b, c, d] := by
  match l, h with
  | [a, b, c, d], _ => exact ⟨a, b, c, d, rfl⟩

set_option maxHeartbeats 400000 in
set_option maxRecDepth 100000 in
theorem lifted (os : Os) (started : os.Started) (H : Type) (enc : TypeId × Value → H) :
    ReturnsInHanded {} Trym.checked os 4 .any (Rows.fnCountBelowAgainstKeyBeforeSlotSpec.pre6 enc Trym.prog Trym.f4 Rows.fnCountBelowAgainstKeyBeforeSlotRow.domain false) (Rows.fnCountBelowAgainstKeyBeforeSlotSpec.post enc Trym.prog Trym.f4 false true false false) := by
  refine returnsInHanded_of_change (C := Trym.checked) own started (by kernel_rfl) Trym.func4
    (ChangeSpec.witness6 (enc := enc) (C := Trym.checked) false ⟨#[], #[.agg #[.int .u32 0, .int .u32 0, .int .u32 0, .int .u32 0], .int .u32 0], []⟩ 8 (by kernel_rfl) (by kernel_rfl) (by kernel_rfl) (by kernel_rfl)) ?_
  intro W base args ds gs before hval0 hW hcnd _
  have hval : ∀ (j : Nat) t v, Trym.f4.params[j]? = some t → args[j]? = some v → Value.okWide Trym.prog W .any base t v := hval0
  have hW' := hW
  obtain ⟨p, q, hA0, hV, rfl, hfz, hnd⟩ := hW
  have hA : DataW.TrodAll enc Trym.prog W 0 (fun _ => true) true Trym.f4.params.toList args.toList ds p := hA0
  rw [Trym.params4] at hA hval
  obtain ⟨v0, vs0, d0, ds0, p0, q0, hargs, rfl, rfl, h0, r0⟩ := trodAll_cons hA
  obtain ⟨v1, vs1, d1, ds1, p1, q1, rfl, rfl, rfl, h1, r1⟩ := trodAll_cons r0
  obtain ⟨rfl, rfl, rfl⟩ := trodAll_nil r1
  obtain rfl : args = #[v0, v1] := by cases args; simp_all
  obtain ⟨rfl, rfl⟩ := trodVars_none hV
  obtain ⟨k, rfl, rfl, rfl, wk⟩ := open_int Trym.underlying22 (hval 1 22 v1 rfl rfl) h1
  -- the array by value: its cells out of its outer form, its elements out of its reading
  obtain ⟨cs, rfl, hsz, _⟩ : ∃ cs, v0 = .agg cs ∧ cs.size = Trym.prog.cellsOf 23 ∧ Row.okWide Trym.prog W .any base 23 cs := by
    have := hval 0 23 v0 rfl rfl
    simpa [Value.okWide, Trym.underlying23] using this
  rw [cells23] at hsz
  obtain ⟨l⟩ := cs
  obtain ⟨c0, c1, c2, c3, rfl⟩ := list4 l hsz
  obtain ⟨fuel, hf⟩ := h0
  obtain ⟨y0, y1, y2, y3, m, hx, hy0, hy1, hy2, hy3⟩ := trod_array4 Trym.underlying23 cells22 hf
  obtain ⟨x0, e0, rfl, w0⟩ := DataW.trod_int Trym.underlying22 hy0
  obtain ⟨x1, e1, rfl, w1⟩ := DataW.trod_int Trym.underlying22 hy1
  obtain ⟨x2, e2, rfl, w2⟩ := DataW.trod_int Trym.underlying22 hy2
  obtain ⟨x3, e3, rfl, w3⟩ := DataW.trod_int Trym.underlying22 hy3
  simp at e0 e1 e2 e3
  subst e0 e1 e2 e3
  simp only [Prod.mk.injEq] at hx
  obtain ⟨rfl, rfl⟩ := hx
  clear hA0 hval0
  refine (walk x0 x1 x2 x3 k (bounds_u32 w0) (bounds_u32 w1) (bounds_u32 w2) (bounds_u32 w3) (bounds_u32 wk) W).mono fun en W' ⟨he, bel⟩ => ?_
  subst he
  have rdA : ∀ sp : Nat → Bool, DataW.Trod enc Trym.prog W' 0 sp true 23 (.agg #[.int .u32 x0, .int .u32 x1, .int .u32 x2, .int .u32 x3]) (DataW.agg [.lit (.int .u32 x0), .lit (.int .u32 x1), .lit (.int .u32 x2), .lit (.int .u32 x3)]) [] := fun sp => ⟨2, by simp [DataW.trod, Value.cells, Trym.underlying23, Trym.underlying22, cells23, cells22, w0, w1, w2, w3, show List.range 4 = [0, 1, 2, 3] from rfl]⟩
  exact ⟨_, rfl, _, _, _, [], _, [], hW', trodAll_mk1 (shut_bool Trym.underlying4 _), (trodAll_cons_mk (rdA _) (trodAll_cons_mk (shut_int Trym.underlying22 wk) trodAll_mk0)), rfl, bel.frame _, fun h => by cases h⟩

theorem over : Rows.fnCountBelowAgainstKeyBeforeSlotRow.holds Trym.pinned (OpenSpec.ofChange Rows.fnCountBelowAgainstKeyBeforeSlotSpec) :=
  OpenClaim.holds_of_wide 4 Trym.f4 rfl rfl rfl rfl rfl rfl rfl ⟨rfl, rfl, rfl, rfl, rfl⟩ rfl rfl rfl rfl rfl (by kernel_rfl) Trym.func4 (by kernel_rfl)
    (of_decide_eq_true (by kernel_rfl)) (by unfold Func.isWrapper; first | (rw [if_pos (by decide +kernel)]; kernel_rfl) | (rw [if_neg (by decide +kernel)]; exact ⟨rfl, rfl⟩))
    (fun os started H enc _ => lifted os started H enc)

theorem proved : Rows.FnCountBelowAgainstKeyBeforeSlotSaid :=
  over
end Go.Proofs.Qxb6613762aMods.fnCountBelowAgainstKeyBeforeSlot
