/-
  THE WALK OF FnFootprintGrowsByWhatIsAdded (function 4), within its own bounds.
-/
import Derived.Test.Qxb6615048aModsGrowParts
import Derived.Deep.Cut
namespace Go.Proofs.Qxb6615048aMods.Grow
open Go.ChangeShapes Go.WideShapes Go.ChangeAt Go.RowKit
open Fp

theorem ret_dec {p : Prop} [Decidable p] (h : p) : Ending.returned (.bool (decide p)) = .returned (.bool true) := by rw [decide_eq_true h]

theorem field_ways (f : Int) (h0 : 0 ≤ f) (h3 : f ≤ 3) :
    ((f == 0) = true ∧ (f == 1) = false ∧ (f == 2) = false ∧ (f == 3) = false) ∨ ((f == 0) = false ∧ (f == 1) = true ∧ (f == 2) = false ∧ (f == 3) = false) ∨
    ((f == 0) = false ∧ (f == 1) = false ∧ (f == 2) = true ∧ (f == 3) = false) ∨ ((f == 0) = false ∧ (f == 1) = false ∧ (f == 2) = false ∧ (f == 3) = true) := by
  have : f = 0 ∨ f = 1 ∨ f = 2 ∨ f = 3 := by omega
  rcases this with rfl | rfl | rfl | rfl <;> simp

set_option maxRecDepth 100000 in
set_option maxHeartbeats 4000000 in
theorem wide (a0 a1 a4 : ByteArray) (a2 : Int) (a3 : Option Addr) (len cap : Nat) (z : List Int) (a5 : Option Addr) (m xc : Nat) (z5 : List Int) (a6 : Int) (w : World) (w3 : IsRow .u8 w a3 len cap z) (w5 : IsRow .u8 w a5 m xc z5)
    (k0 : a0.size ≤ 262144) (k1 : a1.size ≤ 262144) (k2 : len ≤ 262144) (k3 : a4.size ≤ 262144) (k4 : m ≤ 262144) (k5 : a6 ≤ 3) (k6 : 0 ≤ a6) (hz : a0.size + a1.size + len + a4.size + m ≤ 1048576) :
    Calls Trym.prog 4 #[.string a0, .string a1, .int .u64 a2, .slice a3 len cap, .string a4, .slice a5 m xc, .int .u8 a6] w fun e w' => e = .returned (.bool true) ∧ Below w.heap.size w w' := by
  have hne := fun wx => run_neq_slice_nil_any (P := Trym.prog) wx 23 5 a3 len cap 0 0 Trym.underlying23
  have H3 := hide w3
  have H5 := hide w5
  clear w3 w5
  go_enter Trym.func4, Trym.ntmps4
  go_upto_if 54 with (go_at_call 8; refine (zz8_yes _ _ _ _ _ _ _ _ _ _ _ _ hz).mono ?_; rintro e w' ⟨rfl, rfl⟩)
  go_cut [3] from 27 (fun d wc => ∃ ao cp, d = .slice ao len cp ∧ (0 < len → ∃ g, ao = some ⟨g, 0, none⟩ ∧ Rw wc g len) ∧ Below w.heap.size w wc)
  case first =>
    rcases H3.out with ⟨rfl, rfl, rfl, rfl⟩ | ⟨x, rfl, hlc, hcm, hzl, hcell, hwf⟩
    · go_wp2
      go_meet
      case rel => exact ⟨_, _, rfl, fun h => absurd h (by omega), Below.refl _ _⟩
    · obtain ⟨i0, hi, hz0, hz1, hz2⟩ := info_parts info5
      go_upto_region 17 with (at_make; refine wpList_make_full _ rfl _ _ 23 rfl w.heap.size 5 i0 (.int .u8 0) 1 Trym.underlying23 hi hz0 hz1 .i64 .i64 _ _ len rfl rfl rfl rfl (by rw [hz2]; omega) (by unfold maxLen; omega) (Nat.le_refl _) ?_; intro w2 hown hgrow)
      have hb2 : Below w.heap.size w w2 := (Below.refl _ _).grown hgrow (Nat.le_refl _) (by simp)
      obtain ⟨cur, hcs, hg, HS⟩ := copy_ready hown hb2 hcell
      clear hown hgrow hi hz0 hz1 hz2 hcell
      go_upto_region 18 with (refine wpList_copy_splice rfl (.tmp 58) (.tmp 59) 23 23 rfl 5 Trym.underlying23 size5 (some ⟨w.heap.size, 0, none⟩) (some x) len len len cap rfl rfl w.heap.size 0 cur 5 hg.out ((z.take len).map (Value.int .u8)) (by simp; omega) (fun _ => ⟨rfl, x, rfl, HS.out⟩) (by have := hcs.out; simp; omega) (ints_oneCell _ _) w.heap.size w hb2 (Nat.le_refl _) ?_; intro w3 HG hb3)
      have HR := hide (Rw.copied HG hcs.out (by omega) hwf)
      clear HG HS hg hcs hb2
      go_wp2
      go_meet
      case rel => exact ⟨_, _, rfl, fun _ => ⟨_, rfl, HR.out⟩, hb3⟩
  case rest =>
    clear H3 hne
    obtain ⟨ao, cp, rfl, hdat, hbel⟩ := hcut
    obtain ⟨X, hX, hcv⟩ := conv_any H5.out hbel
    have HD := hide hdat
    have HB := hide hbel
    clear hdat hbel
    have c0 : (a0 ++ X).size = a0.size + m := by rw [ByteArray.size_append, hX]
    have c1 : (a1 ++ X).size = a1.size + m := by rw [ByteArray.size_append, hX]
    have c4 : (a4 ++ X).size = a4.size + m := by rw [ByteArray.size_append, hX]
    rcases field_ways a6 k6 k5 with ⟨f0, f1, f2, f3⟩ | ⟨f0, f1, f2, f3⟩ | ⟨f0, f1, f2, f3⟩ | ⟨f0, f1, f2, f3⟩
    · go_wp2_with (go_at_call 7; refine (new_any _ _ _ _ _ _ _ _).mono ?_; rintro e w5 ⟨rfl, rfl⟩)
      refine (ZZfoot_any _ a0 a1 a4 ao len cp _ (by omega) (by go_simp) (by go_simp) (by go_simp) (by go_simp)).mono ?_
      rintro e w6 ⟨rfl, q1, rfl⟩
      go_wp2_with (go_at_call 7; refine (new_any _ _ _ _ _ _ _ _).mono ?_; rintro e w5 ⟨rfl, rfl⟩)
      refine (ZZfoot_any _ (a0 ++ X) a1 a4 ao len cp _ (by omega) (by go_simp) (by go_simp) (by go_simp) (by go_simp)).mono ?_
      rintro e w6 ⟨rfl, q2, rfl⟩
      go_wp2
      go_ret
      exact ⟨ret_dec (by omega), msg_below (msg_below HB.out _ _) _ _⟩
    · go_wp2_with (go_at_call 7; refine (new_any _ _ _ _ _ _ _ _).mono ?_; rintro e w5 ⟨rfl, rfl⟩)
      refine (ZZfoot_any _ a0 a1 a4 ao len cp _ (by omega) (by go_simp) (by go_simp) (by go_simp) (by go_simp)).mono ?_
      rintro e w6 ⟨rfl, q1, rfl⟩
      go_wp2_with (go_at_call 7; refine (new_any _ _ _ _ _ _ _ _).mono ?_; rintro e w5 ⟨rfl, rfl⟩)
      refine (ZZfoot_any _ a0 (a1 ++ X) a4 ao len cp _ (by omega) (by go_simp) (by go_simp) (by go_simp) (by go_simp)).mono ?_
      rintro e w6 ⟨rfl, q2, rfl⟩
      go_wp2
      go_ret
      exact ⟨ret_dec (by omega), msg_below (msg_below HB.out _ _) _ _⟩
    · obtain ⟨N, hN1, hN2⟩ : ∃ N : Nat, len + m ≤ N ∧ N ≤ len + m := ⟨_, Nat.le_refl _, Nat.le_refl _⟩
      obtain ⟨i0, hi, hz0, hz1, hz2⟩ := info_parts info5
      have hws := HB.out.size
      clear c0 c1 c4
      go_wp2_with (at_make; refine wpList_make_full _ rfl _ _ 23 rfl w.heap.size 5 i0 (.int .u8 0) 1 Trym.underlying23 hi hz0 hz1 .i64 .i64 _ _ N rfl rfl (by omega) (by omega) (by rw [hz2]; omega) (by unfold maxLen; omega) hws ?_; intro w2 hown hgrow)
      have I0 : St w ao len wc.heap.size N w2 := St.start HB.out hown hgrow HD.out
      clear hown hgrow hi hz0 hz1 hz2 HD HB hcv
      generalize wc.heap.size = A at *
      go_loopw [23] (fun i wr => ∃ j : Nat, j ≤ len ∧ i = .int .i64 j ∧ St w ao len A N wr) (fun i _ => len - (intOf i).toNat)
      case atStart => exact ⟨0, Nat.zero_le _, rfl, I0⟩
      case round =>
        clear I0
        obtain ⟨j, hj, rfl, hI⟩ := hrel
        have HI := hide hI
        clear hI
        by_cases hlt : j < len
        · obtain ⟨v, hv, _, _⟩ := HI.out.row.cell (i := j) (by omega)
          have hf := HI.out.row.free j
          obtain ⟨g, rfl, hgA, hr⟩ := HI.out.data (by omega)
          obtain ⟨y, hy, hy1, hy2⟩ := hr.cell hlt
          clear hr
          go_wp2
          go_roundw
          case rel => exact ⟨j + 1, by omega, by go_num, HI.out.store j hy1 hy2⟩
          case measure => simp [intOf]; omega
        · have H1 := HI.out
          go_wp2_with fail
          go_loopw [24] (fun i wr => ∃ j : Nat, j ≤ m ∧ i = .int .i64 j ∧ St w ao len A N wr) (fun i _ => m - (intOf i).toNat)
          case atStart => exact ⟨0, Nat.zero_le _, rfl, H1⟩
          case round =>
            clear H1 HI hj hlt
            obtain ⟨j, hj, rfl, hI⟩ := hrel
            have HI := hide hI
            clear hI
            by_cases hlt : j < m
            · obtain ⟨v, hv, _, _⟩ := HI.out.row.cell (i := len + j) (by omega)
              have hf := HI.out.row.free (len + j)
              obtain ⟨b, off, rfl, hel⟩ := elem_any H5.out (by omega)
              obtain ⟨y, hy, hy1, hy2⟩ := hel _ HI.out.below j hlt
              clear hel
              go_wp2
              go_roundw
              case rel => exact ⟨j + 1, by omega, by go_num, HI.out.store (len + j) hy1 hy2⟩
              case measure => simp [intOf]; omega
            · go_wp2_with (go_at_call 7; refine (new_any _ _ _ _ _ _ _ _).mono ?_; rintro e w5 ⟨rfl, rfl⟩)
              refine (ZZfoot_any _ a0 a1 a4 ao len cp _ (by omega) (by go_simp) (by go_simp) (by go_simp) (by go_simp)).mono ?_
              rintro e w6 ⟨rfl, q1, rfl⟩
              go_wp2_with (go_at_call 7; refine (new_any _ _ _ _ _ _ _ _).mono ?_; rintro e w5 ⟨rfl, rfl⟩)
              refine (ZZfoot_any _ a0 a1 a4 (some ⟨A, 0, none⟩) N N _ (by omega) (by go_simp) (by go_simp) (by go_simp) (by go_simp)).mono ?_
              rintro e w6 ⟨rfl, q2, rfl⟩
              go_wp2
              go_ret
              exact ⟨ret_dec (by omega), msg_below (msg_below HI.out.below _ _) _ _⟩
    · go_wp2_with (go_at_call 7; refine (new_any _ _ _ _ _ _ _ _).mono ?_; rintro e w5 ⟨rfl, rfl⟩)
      refine (ZZfoot_any _ a0 a1 a4 ao len cp _ (by omega) (by go_simp) (by go_simp) (by go_simp) (by go_simp)).mono ?_
      rintro e w6 ⟨rfl, q1, rfl⟩
      go_wp2_with (go_at_call 7; refine (new_any _ _ _ _ _ _ _ _).mono ?_; rintro e w5 ⟨rfl, rfl⟩)
      refine (ZZfoot_any _ a0 a1 (a4 ++ X) ao len cp _ (by omega) (by go_simp) (by go_simp) (by go_simp) (by go_simp)).mono ?_
      rintro e w6 ⟨rfl, q2, rfl⟩
      go_wp2
      go_ret
      exact ⟨ret_dec (by omega), msg_below (msg_below HB.out _ _) _ _⟩
end Go.Proofs.Qxb6615048aMods.Grow
