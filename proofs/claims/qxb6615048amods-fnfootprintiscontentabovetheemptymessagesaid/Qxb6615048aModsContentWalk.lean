/-
  THE WALK OF FnFootprintIsContentAboveTheEmptyMessage (function 3).
-/
import Derived.Test.Qxb6615048aModsRw
import Derived.WalkSpells
import Derived.Deep.Cut
import Derived.Deep.CutRange
namespace Go.Proofs.Qxb6615048aMods.Content
open Go.ChangeShapes Go.WideShapes Go.ChangeAt Go.RowKit
open Fp

theorem info5 : (Trym.prog.info? 5).map (fun i => (i.zero, i.size, i.bytes)) = some (some (.int .u8 0), 1, 1) := by kernel_rfl
theorem size5 : (Trym.prog.info? 5).map (·.size) = some 1 := by kernel_rfl

/-- what is known of a slice of bytes that came in -/
def IsRow (k : IntKind) (w : World) (a : Option Addr) (len cap : Nat) (zs : List Int) : Prop :=
  (a = none ∧ len = 0 ∧ cap = 0 ∧ zs = []) ∨
  ∃ x, a = some x ∧ len ≤ cap ∧ cap ≤ maxLen ∧ zs.length = cap ∧ (∀ i, i < zs.length → w.cell? (x.add i) = some (.int k (zs.getD i 0))) ∧ ∀ n ∈ zs, (Lit.int k n).wf = true

theorem ret_beq {a b : Int} (h : a = b) : Ending.returned (.bool (a == b)) = .returned (.bool true) := by rw [h, beq_self_eq_true]

/-- a new message and its footprint's draws turn nothing that was there -/
theorem msg_below {w x : World} (h : Below w.heap.size w x) (o : Obj) (q : Nat) : Below w.heap.size w ((x.alloc o).drewN q) :=
  (h.alloc h.size o).trans ⟨rfl, rfl, rfl, Nat.le_refl _, fun _ _ => rfl⟩

set_option maxHeartbeats 2000000 in
theorem early (a0 a1 a4 : ByteArray) (a2 : Int) (a3 : Option Addr) (len cap : Nat) (w : World) (w0 : a0.size ≤ maxLen) (w1 : a1.size ≤ maxLen) (wl : len ≤ maxLen) (w4 : a4.size ≤ maxLen)
    (h : 262144 < a0.size ∨ 262144 < a1.size ∨ 262144 < len ∨ 262144 < a4.size) :
    Calls Trym.prog 3 #[.string a0, .string a1, .int .u64 a2, .slice a3 len cap, .string a4] w fun e w' => e = .returned (.bool true) ∧ Below w.heap.size w w' := by
  by_cases hz : 1048576 < a0.size + a1.size + len + a4.size
  · go_enter Trym.func3, Trym.ntmps3
    go_wp2_with (go_at_call 5; refine (zz5_no _ _ _ _ _ _ _ _ hz w0 w1 wl w4).mono ?_; rintro e w' ⟨rfl, rfl⟩)
    go_ret
    exact ⟨rfl, Below.refl _ _⟩
  · have hz' : a0.size + a1.size + len + a4.size ≤ 1048576 := by omega
    clear hz
    by_cases k0 : 262144 < a0.size
    · go_enter Trym.func3, Trym.ntmps3
      go_wp2_with (go_at_call 5; refine (zz5_yes _ _ _ _ _ _ _ _ hz').mono ?_; rintro e w' ⟨rfl, rfl⟩)
      go_ret
      exact ⟨rfl, Below.refl _ _⟩
    by_cases k1 : 262144 < a1.size
    · go_enter Trym.func3, Trym.ntmps3
      go_wp2_with (go_at_call 5; refine (zz5_yes _ _ _ _ _ _ _ _ hz').mono ?_; rintro e w' ⟨rfl, rfl⟩)
      go_ret
      exact ⟨rfl, Below.refl _ _⟩
    by_cases k2 : 262144 < len
    · go_enter Trym.func3, Trym.ntmps3
      go_wp2_with (go_at_call 5; refine (zz5_yes _ _ _ _ _ _ _ _ hz').mono ?_; rintro e w' ⟨rfl, rfl⟩)
      go_ret
      exact ⟨rfl, Below.refl _ _⟩
    have k3 : 262144 < a4.size := by omega
    go_enter Trym.func3, Trym.ntmps3
    go_wp2_with (go_at_call 5; refine (zz5_yes _ _ _ _ _ _ _ _ hz').mono ?_; rintro e w' ⟨rfl, rfl⟩)
    go_ret
    exact ⟨rfl, Below.refl _ _⟩

set_option maxRecDepth 100000 in
set_option maxHeartbeats 4000000 in
theorem wide (a0 a1 a4 : ByteArray) (a2 : Int) (a3 : Option Addr) (len cap : Nat) (z : List Int) (w : World) (w3 : IsRow .u8 w a3 len cap z)
    (k0 : a0.size ≤ 262144) (k1 : a1.size ≤ 262144) (k2 : len ≤ 262144) (k3 : a4.size ≤ 262144) :
    Calls Trym.prog 3 #[.string a0, .string a1, .int .u64 a2, .slice a3 len cap, .string a4] w fun e w' => e = .returned (.bool true) ∧ Below w.heap.size w w' := by
  have hz : a0.size + a1.size + len + a4.size ≤ 1048576 := by omega
  have hne := fun wx => run_neq_slice_nil_any (P := Trym.prog) wx 23 5 a3 len cap 0 0 Trym.underlying23
  have H3 := hide w3
  clear w3
  go_enter Trym.func3, Trym.ntmps3
  go_upto_if 42 with (go_at_call 5; refine (zz5_yes _ _ _ _ _ _ _ _ hz).mono ?_; rintro e w' ⟨rfl, rfl⟩)
  go_cut [3] from 22 (fun d wc => ∃ ao cp, d = .slice ao len cp ∧ (0 < len → ∃ g, ao = some ⟨g, 0, none⟩ ∧ Rw wc g len) ∧ Below w.heap.size w wc)
  case first =>
    rcases H3.out with ⟨rfl, rfl, rfl, rfl⟩ | ⟨x, rfl, hlc, hcm, hzl, hcell, hwf⟩
    · go_wp2
      go_meet
      case rel => exact ⟨_, _, rfl, fun h => absurd h (by omega), Below.refl _ _⟩
    · obtain ⟨i0, hi, hz0, hz1, hz2⟩ := info_parts info5
      go_upto_region 13 with (at_make; refine wpList_make_full _ rfl _ _ 23 rfl w.heap.size 5 i0 (.int .u8 0) 1 Trym.underlying23 hi hz0 hz1 .i64 .i64 _ _ len rfl rfl rfl rfl (by rw [hz2]; omega) (by unfold maxLen; omega) (Nat.le_refl _) ?_; intro w2 hown hgrow)
      have hb2 : Below w.heap.size w w2 := (Below.refl _ _).grown hgrow (Nat.le_refl _) (by simp)
      obtain ⟨cur, hcs, hg, HS⟩ := copy_ready hown hb2 hcell
      clear hown hgrow hi hz0 hz1 hz2 hcell
      go_upto_region 14 with (refine wpList_copy_splice rfl (.tmp 46) (.tmp 47) 23 23 rfl 5 Trym.underlying23 size5 (some ⟨w.heap.size, 0, none⟩) (some x) len len len cap rfl rfl w.heap.size 0 cur 5 hg.out ((z.take len).map (Value.int .u8)) (by simp; omega) (fun _ => ⟨rfl, x, rfl, HS.out⟩) (by have := hcs.out; simp; omega) (ints_oneCell _ _) w.heap.size w hb2 (Nat.le_refl _) ?_; intro w3 HG hb3)
      have HR := hide (Rw.copied HG hcs.out (by omega) hwf)
      clear HG HS hg hcs hb2
      go_wp2
      go_meet
      case rel => exact ⟨_, _, rfl, fun _ => ⟨_, rfl, HR.out⟩, hb3⟩
  case rest =>
    clear H3 hne
    obtain ⟨ao, cp, rfl, hdat, hbel⟩ := hcut
    obtain ⟨N, hN1, hN2⟩ : ∃ N : Nat, a0.size + a1.size + len + a4.size ≤ N ∧ N ≤ a0.size + a1.size + len + a4.size := ⟨_, Nat.le_refl _, Nat.le_refl _⟩
    obtain ⟨i0, hi, hz0, hz1, hz2⟩ := info_parts info5
    have hws := hbel.size
    have HD := hide hdat
    clear hdat
    go_wp2_with (at_make; refine wpList_make_full _ rfl _ _ 23 rfl w.heap.size 5 i0 (.int .u8 0) 1 Trym.underlying23 hi hz0 hz1 .i64 .i64 _ _ N rfl rfl (by omega) (by omega) (by rw [hz2]; omega) (by unfold maxLen; omega) hws ?_; intro w2 hown hgrow)
    have I0 : St w ao len wc.heap.size N w2 := St.start hbel hown hgrow HD.out
    clear hown hgrow hi hz0 hz1 hz2 hbel HD
    generalize wc.heap.size = A at *
    go_loopw [14, 15] (fun k i wr => ∃ K j : Nat, j ≤ a0.size ∧ j ≤ K ∧ K ≤ j ∧ k = .int .i64 K ∧ i = .int .i64 j ∧ St w ao len A N wr) (fun _ i _ => a0.size - (intOf i).toNat)
    case atStart => exact ⟨0, 0, Nat.zero_le _, by omega, by omega, rfl, rfl, I0⟩
    case round =>
      clear I0
      obtain ⟨K, j, hj, hK1, hK2, rfl, rfl, hI⟩ := hrel
      have HI := hide hI
      clear hI
      by_cases hlt : j < a0.size
      · obtain ⟨v, hv, _, _⟩ := HI.out.row.cell (i := K) (by omega)
        have hf := HI.out.row.free K
        go_wp2
        go_roundw
        case rel => exact ⟨K + 1, j + 1, by omega, by omega, by omega, by go_num, by go_num, HI.out.store K (byte_bd _).1 (byte_bd _).2⟩
        case measure => simp [intOf]; omega
      · have H1 := HI.out
        go_wp2_with fail
        go_loopw [14, 16] (fun k i wr => ∃ K j : Nat, j ≤ a1.size ∧ a0.size + j ≤ K ∧ K ≤ a0.size + j ∧ k = .int .i64 K ∧ i = .int .i64 j ∧ St w ao len A N wr) (fun _ i _ => a1.size - (intOf i).toNat)
        case atStart => exact ⟨K, 0, Nat.zero_le _, by omega, by omega, rfl, rfl, H1⟩
        case round =>
          clear H1 HI hK1 hK2 hj hlt
          obtain ⟨K, j, hj, hK1, hK2, rfl, rfl, hI⟩ := hrel
          have HI := hide hI
          clear hI
          by_cases hlt : j < a1.size
          · obtain ⟨v, hv, _, _⟩ := HI.out.row.cell (i := K) (by omega)
            have hf := HI.out.row.free K
            go_wp2
            go_roundw
            case rel => exact ⟨K + 1, j + 1, by omega, by omega, by omega, by go_num, by go_num, HI.out.store K (byte_bd _).1 (byte_bd _).2⟩
            case measure => simp [intOf]; omega
          · have H1 := HI.out
            go_wp2_with fail
            go_loopw [14, 17] (fun k i wr => ∃ K j : Nat, j ≤ len ∧ a0.size + a1.size + j ≤ K ∧ K ≤ a0.size + a1.size + j ∧ k = .int .i64 K ∧ i = .int .i64 j ∧ St w ao len A N wr) (fun _ i _ => len - (intOf i).toNat)
            case atStart => exact ⟨K, 0, Nat.zero_le _, by omega, by omega, rfl, rfl, H1⟩
            case round =>
              clear H1 HI hK1 hK2 hj hlt
              obtain ⟨K, j, hj, hK1, hK2, rfl, rfl, hI⟩ := hrel
              have HI := hide hI
              clear hI
              by_cases hlt : j < len
              · obtain ⟨v, hv, _, _⟩ := HI.out.row.cell (i := K) (by omega)
                have hf := HI.out.row.free K
                obtain ⟨g, rfl, hgA, hr⟩ := HI.out.data (by omega)
                obtain ⟨y, hy, hy1, hy2⟩ := hr.cell hlt
                clear hr
                go_wp2
                go_roundw
                case rel => exact ⟨K + 1, j + 1, by omega, by omega, by omega, by go_num, by go_num, HI.out.store K hy1 hy2⟩
                case measure => simp [intOf]; omega
              · have H1 := HI.out
                go_wp2_with fail
                go_loopw [14, 18] (fun k i wr => ∃ K j : Nat, j ≤ a4.size ∧ a0.size + a1.size + len + j ≤ K ∧ K ≤ a0.size + a1.size + len + j ∧ k = .int .i64 K ∧ i = .int .i64 j ∧ St w ao len A N wr) (fun _ i _ => a4.size - (intOf i).toNat)
                case atStart => exact ⟨K, 0, Nat.zero_le _, by omega, by omega, rfl, rfl, H1⟩
                case round =>
                  clear H1 HI hK1 hK2 hj hlt
                  obtain ⟨K, j, hj, hK1, hK2, rfl, rfl, hI⟩ := hrel
                  have HI := hide hI
                  clear hI
                  by_cases hlt : j < a4.size
                  · obtain ⟨v, hv, _, _⟩ := HI.out.row.cell (i := K) (by omega)
                    have hf := HI.out.row.free K
                    go_wp2
                    go_roundw
                    case rel => exact ⟨K + 1, j + 1, by omega, by omega, by omega, by go_num, by go_num, HI.out.store K (byte_bd _).1 (byte_bd _).2⟩
                    case measure => simp [intOf]; omega
                  · have e0 : (⟨#[]⟩ : ByteArray).size = 0 := rfl
                    go_wp2_with (go_at_call 7; refine (new_any _ _ _ _ _ _ _ _).mono ?_; rintro e w5 ⟨rfl, rfl⟩)
                    refine (ZZfoot_any _ a0 a1 a4 ao len cp _ (by omega) (by go_simp) (by go_simp) (by go_simp) (by go_simp)).mono ?_
                    rintro e w6 ⟨rfl, q1, rfl⟩
                    go_wp2_with (go_at_call 7; refine (new_any _ _ _ _ _ _ _ _).mono ?_; rintro e w5 ⟨rfl, rfl⟩)
                    refine (ZZfoot_any _ ⟨#[]⟩ ⟨#[]⟩ ⟨#[]⟩ none 0 0 _ (by simp [e0]) (by go_simp) (by go_simp) (by go_simp) (by go_simp)).mono ?_
                    rintro e w6 ⟨rfl, q2, rfl⟩
                    go_wp2_with (go_at_call 7; refine (new_any _ _ _ _ _ _ _ _).mono ?_; rintro e w5 ⟨rfl, rfl⟩)
                    refine (ZZfoot_any _ ⟨#[]⟩ ⟨#[]⟩ ⟨#[]⟩ (some ⟨A, 0, none⟩) N N _ (by simp [e0]; omega) (by go_simp) (by go_simp) (by go_simp) (by go_simp)).mono ?_
                    rintro e w6 ⟨rfl, q3, rfl⟩
                    go_wp2
                    go_ret
                    exact ⟨ret_beq (by omega), msg_below (msg_below (msg_below HI.out.below _ _) _ _) _ _⟩
end Go.Proofs.Qxb6615048aMods.Content
