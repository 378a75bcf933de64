/-
  PARTS OF THE WALK OF FnFootprintGrowsByWhatIsAdded (function 4): what came in; string(extra); the early ways out.
-/
import Derived.Test.Qxb6615048aModsRw
import Derived.WalkSpells
import Derived.Laws.BytesArg
namespace Go.Proofs.Qxb6615048aMods.Grow
open Go.ChangeShapes Go.WideShapes Go.ChangeAt Go.RowKit
open Fp

theorem info5 : (Trym.prog.info? 5).map (fun i => (i.zero, i.size, i.bytes)) = some (some (.int .u8 0), 1, 1) := by kernel_rfl
theorem size5 : (Trym.prog.info? 5).map (·.size) = some 1 := by kernel_rfl

/-- what is known of a slice of bytes that came in -/
def IsRow (k : IntKind) (w : World) (a : Option Addr) (len cap : Nat) (zs : List Int) : Prop :=
  (a = none ∧ len = 0 ∧ cap = 0 ∧ zs = []) ∨
  ∃ x, a = some x ∧ len ≤ cap ∧ cap ≤ maxLen ∧ zs.length = cap ∧ (∀ i, i < zs.length → w.cell? (x.add i) = some (.int k (zs.getD i 0))) ∧ ∀ n ∈ zs, (Lit.int k n).wf = true

theorem isRow_len {k : IntKind} {w : World} {a : Option Addr} {len cap : Nat} {zs : List Int} (h : IsRow k w a len cap zs) : len ≤ maxLen := by
  rcases h with ⟨_, rfl, _, _⟩ | ⟨x, _, hl, hm, _⟩
  · exact Nat.zero_le _
  · exact Nat.le_trans hl hm

theorem ret_beq {a b : Int} (h : a = b) : Ending.returned (.bool (a == b)) = .returned (.bool true) := by rw [h, beq_self_eq_true]

/-- a new message and its footprint's draws turn nothing that was there -/
theorem msg_below {w x : World} (h : Below w.heap.size w x) (o : Obj) (q : Nat) : Below w.heap.size w ((x.alloc o).drewN q) :=
  (h.alloc h.size o).trans ⟨rfl, rfl, rfl, Nat.le_refl _, fun _ _ => rfl⟩

/-- 'string(extra)': some text of as many bytes as extra has -/
theorem conv_any {w wx : World} {a : Option Addr} {len cap : Nat} {zs : List Int} (h : IsRow .u8 w a len cap zs) (hb : Below w.heap.size w wx) :
    ∃ X : ByteArray, X.size = len ∧ (convert 23 9 (.slice a len cap)).run Trym.prog wx = .ok (.string X) wx := by
  rcases h with ⟨rfl, rfl, rfl, rfl⟩ | ⟨x, rfl, hl, _, hz, hcell, _⟩
  · exact ⟨ByteArray.empty, rfl, run_convert_bytes_nil wx 23 5 Trym.underlying23 Trym.underlying5 0 0 9 Trym.underlying9⟩
  · refine ⟨strOfNums (zs.take len), by rw [strOfNums_size]; simp; omega, ?_⟩
    have hl' : (loadCells x len).run Trym.prog wx = .ok ((zs.take len).map (Value.int .u8)).toArray wx := by
      have := run_loadCells_list (P := Trym.prog) wx x ((zs.take len).map (Value.int .u8)) (fun j v hv => by
        have hj := (List.getElem?_eq_some_iff.1 hv).1
        simp only [List.length_map, List.length_take] at hj
        have hj2 : j < zs.length := by omega
        have hc := hcell j hj2
        have e : ((zs.take len).map (Value.int .u8))[j]? = some (.int .u8 (zs.getD j 0)) := by
          have : j < len := by omega
          simp [List.getD, this, hj2]
        rw [e] at hv
        exact (hb.cell (World.block_lt_of_cell? _ _ hc)).trans (hc.trans hv))
      have hn : ((zs.take len).map (Value.int .u8)).length = len := by simp; omega
      rw [hn] at this
      exact this
    rw [run_convert_bytes_string wx 23 9 5 _ len cap Trym.underlying23 Trym.underlying5 Trym.underlying9, run_bytesToString wx _ len cap _ hl', foldl_push_bytes]
    simp [strOfNums, ByteArray.empty, ByteArray.emptyWithCapacity]
    rfl

/-- an element of what came in, in a later world -/
theorem elem_any {w : World} {a : Option Addr} {len cap : Nat} {zs : List Int} (h : IsRow .u8 w a len cap zs) (hp : 0 < len) :
    ∃ b off, a = some ⟨b, off, none⟩ ∧ ∀ wx, Below w.heap.size w wx → ∀ j, j < len → ∃ y : Int, wx.cell? ⟨b, off + j, none⟩ = some (.int .u8 y) ∧ 0 ≤ y ∧ y ≤ 255 := by
  rcases h with ⟨_, rfl, _, _⟩ | ⟨x, rfl, hl, _, hz, hcell, hw⟩
  · omega
  · obtain ⟨b, off, rfl, hc⟩ := ints_at hcell (by omega)
    refine ⟨b, off, rfl, fun wx hb j hj => ?_⟩
    have hj2 : j < zs.length := by omega
    have hcj := hc j hj2
    have hm : zs.getD j 0 ∈ zs := by simp [List.getD, hj2]
    have := bounds_u8 (hw _ hm)
    exact ⟨_, (hb.cell (World.block_lt_of_cell? _ _ hcj)).trans hcj, this.1, this.2⟩

set_option maxHeartbeats 4000000 in
theorem early (a0 a1 a4 : ByteArray) (a2 : Int) (a3 : Option Addr) (len cap : Nat) (a5 : Option Addr) (m xc : Nat) (a6 : Int) (w : World) (w0 : a0.size ≤ maxLen) (w1 : a1.size ≤ maxLen) (wl : len ≤ maxLen) (w4 : a4.size ≤ maxLen) (wm : m ≤ maxLen)
    (h : 262144 < a0.size ∨ 262144 < a1.size ∨ 262144 < len ∨ 262144 < a4.size ∨ 262144 < m ∨ 3 < a6 ∨ 1048576 < a0.size + a1.size + len + a4.size + m) :
    Calls Trym.prog 4 #[.string a0, .string a1, .int .u64 a2, .slice a3 len cap, .string a4, .slice a5 m xc, .int .u8 a6] w fun e w' => e = .returned (.bool true) ∧ Below w.heap.size w w' := by
  by_cases hz : 1048576 < a0.size + a1.size + len + a4.size + m
  · go_enter Trym.func4, Trym.ntmps4
    go_wp2_with (go_at_call 8; refine (zz8_no _ _ _ _ _ _ _ _ _ _ _ _ hz w0 w1 wl w4 wm).mono ?_; rintro e w' ⟨rfl, rfl⟩)
    go_ret
    exact ⟨rfl, Below.refl _ _⟩
  have hz' : a0.size + a1.size + len + a4.size + m ≤ 1048576 := by omega
  clear hz
  by_cases k0 : 262144 < a0.size
  · go_enter Trym.func4, Trym.ntmps4
    go_wp2_with (go_at_call 8; refine (zz8_yes _ _ _ _ _ _ _ _ _ _ _ _ hz').mono ?_; rintro e w' ⟨rfl, rfl⟩)
    go_ret
    exact ⟨rfl, Below.refl _ _⟩
  by_cases k1 : 262144 < a1.size
  · go_enter Trym.func4, Trym.ntmps4
    go_wp2_with (go_at_call 8; refine (zz8_yes _ _ _ _ _ _ _ _ _ _ _ _ hz').mono ?_; rintro e w' ⟨rfl, rfl⟩)
    go_ret
    exact ⟨rfl, Below.refl _ _⟩
  by_cases k2 : 262144 < len
  · go_enter Trym.func4, Trym.ntmps4
    go_wp2_with (go_at_call 8; refine (zz8_yes _ _ _ _ _ _ _ _ _ _ _ _ hz').mono ?_; rintro e w' ⟨rfl, rfl⟩)
    go_ret
    exact ⟨rfl, Below.refl _ _⟩
  by_cases k3 : 262144 < a4.size
  · go_enter Trym.func4, Trym.ntmps4
    go_wp2_with (go_at_call 8; refine (zz8_yes _ _ _ _ _ _ _ _ _ _ _ _ hz').mono ?_; rintro e w' ⟨rfl, rfl⟩)
    go_ret
    exact ⟨rfl, Below.refl _ _⟩
  by_cases k4 : 262144 < m
  · go_enter Trym.func4, Trym.ntmps4
    go_wp2_with (go_at_call 8; refine (zz8_yes _ _ _ _ _ _ _ _ _ _ _ _ hz').mono ?_; rintro e w' ⟨rfl, rfl⟩)
    go_ret
    exact ⟨rfl, Below.refl _ _⟩
  have k5 : 3 < a6 := by omega
  go_enter Trym.func4, Trym.ntmps4
  go_wp2_with (go_at_call 8; refine (zz8_yes _ _ _ _ _ _ _ _ _ _ _ _ hz').mono ?_; rintro e w' ⟨rfl, rfl⟩)
  go_ret
  exact ⟨rfl, Below.refl _ _⟩
end Go.Proofs.Qxb6615048aMods.Grow
