/-
  THE CALLEES OF BOTH LAWS: footprint (9), ZZfootprint (6), ZZnewMessage (7), the two byte bounds (5, 8).
-/
import Derived.Test.Qxb6615048aModsRows
import Derived.WalkKit
import Derived.ProofKit
import Derived.OpenShut
import Derived.Deep.QuietTactic
import Derived.BigQuiet
namespace Go.Proofs.Qxb6615048aMods.Fp
open Go.ChangeShapes Go.WideShapes Go.ChangeAt Go.RowKit

set_option maxHeartbeats 400000 in
theorem foot_any (B : Nat) (t f g : ByteArray) (ao : Option Addr) (n cp : Nat) (w : World) (hs : t.size + f.size + n + g.size ≤ 4000000)
    (c0 : w.cell? ⟨B, 0, none⟩ = some (.string t)) (c1 : w.cell? ⟨B, 1, none⟩ = some (.string f)) (c3 : w.cell? ⟨B, 3, none⟩ = some (.slice ao n cp)) (c4 : w.cell? ⟨B, 4, none⟩ = some (.string g)) :
    Calls Trym.prog 9 #[.pointer (some ⟨B, 0, none⟩)] w fun e w' => e = .returned (.int .i64 ((t.size : Int) + f.size + n + g.size + 256)) ∧ ∃ q, w' = w.drewN q := by
  go_enter Trym.func9, Trym.ntmps9
  go_wp2_with fail
  go_quiet (fail)
  go_wp2
  go_ret
  exact ⟨rfl, _, rfl⟩

theorem ZZfoot_any (B : Nat) (t f g : ByteArray) (ao : Option Addr) (n cp : Nat) (w : World) (hs : t.size + f.size + n + g.size ≤ 4000000)
    (c0 : w.cell? ⟨B, 0, none⟩ = some (.string t)) (c1 : w.cell? ⟨B, 1, none⟩ = some (.string f)) (c3 : w.cell? ⟨B, 3, none⟩ = some (.slice ao n cp)) (c4 : w.cell? ⟨B, 4, none⟩ = some (.string g)) :
    Calls Trym.prog 6 #[.pointer (some ⟨B, 0, none⟩)] w fun e w' => e = .returned (.int .i64 ((t.size : Int) + f.size + n + g.size + 256)) ∧ ∃ q, w' = w.drewN q := by
  go_enter Trym.func6, Trym.ntmps6
  go_wp2_with fail
  refine (foot_any B t f g ao n cp _ hs c0 c1 c3 c4).mono ?_
  rintro e w' ⟨rfl, q, rfl⟩
  go_wp2
  go_ret
  exact ⟨rfl, q, rfl⟩

theorem new_any (t f g : ByteArray) (sq : Int) (ao : Option Addr) (n cp : Nat) (w : World) :
    Calls Trym.prog 7 #[.string t, .string f, .int .u64 sq, .slice ao n cp, .string g] w fun e w' => e = .returned (.pointer (some ⟨w.heap.size, 0, none⟩)) ∧ w' = w.alloc (.cells #[.string t, .string f, .int .u64 sq, .slice ao n cp, .string g] 31) := by
  go_enter Trym.func7, Trym.ntmps7
  go_wp2
  go_ret
  exact ⟨rfl, rfl⟩

theorem zz5_yes (t f g : ByteArray) (sq : Int) (ao : Option Addr) (n cp : Nat) (w : World) (h : t.size + f.size + n + g.size ≤ 1048576) :
    Calls Trym.prog 5 #[.string t, .string f, .int .u64 sq, .slice ao n cp, .string g] w fun e w' => e = .returned (.bool true) ∧ w = w' := by
  go_enter Trym.func5, Trym.ntmps5
  go_wp2
  go_ret
  exact ⟨rfl, rfl⟩

theorem zz5_no (t f g : ByteArray) (sq : Int) (ao : Option Addr) (n cp : Nat) (w : World) (h : 1048576 < t.size + f.size + n + g.size) (h0 : t.size ≤ maxLen) (h1 : f.size ≤ maxLen) (h2 : n ≤ maxLen) (h3 : g.size ≤ maxLen) :
    Calls Trym.prog 5 #[.string t, .string f, .int .u64 sq, .slice ao n cp, .string g] w fun e w' => e = .returned (.bool false) ∧ w = w' := by
  unfold maxLen at h0 h1 h2 h3
  go_enter Trym.func5, Trym.ntmps5
  go_wp2
  all_goals
    go_ret
    exact ⟨rfl, rfl⟩

theorem zz8_yes (t f g : ByteArray) (sq : Int) (ao : Option Addr) (n cp : Nat) (xo : Option Addr) (m xc : Nat) (fd : Int) (w : World) (h : t.size + f.size + n + g.size + m ≤ 1048576) :
    Calls Trym.prog 8 #[.string t, .string f, .int .u64 sq, .slice ao n cp, .string g, .slice xo m xc, .int .u8 fd] w fun e w' => e = .returned (.bool true) ∧ w = w' := by
  go_enter Trym.func8, Trym.ntmps8
  go_wp2
  go_ret
  exact ⟨rfl, rfl⟩

theorem zz8_no (t f g : ByteArray) (sq : Int) (ao : Option Addr) (n cp : Nat) (xo : Option Addr) (m xc : Nat) (fd : Int) (w : World) (h : 1048576 < t.size + f.size + n + g.size + m) (h0 : t.size ≤ maxLen) (h1 : f.size ≤ maxLen) (h2 : n ≤ maxLen) (h3 : g.size ≤ maxLen) (h4 : m ≤ maxLen) :
    Calls Trym.prog 8 #[.string t, .string f, .int .u64 sq, .slice ao n cp, .string g, .slice xo m xc, .int .u8 fd] w fun e w' => e = .returned (.bool false) ∧ w = w' := by
  unfold maxLen at h0 h1 h2 h3 h4
  go_enter Trym.func8, Trym.ntmps8
  go_wp2
  all_goals
    go_ret
    exact ⟨rfl, rfl⟩
end Go.Proofs.Qxb6615048aMods.Fp
