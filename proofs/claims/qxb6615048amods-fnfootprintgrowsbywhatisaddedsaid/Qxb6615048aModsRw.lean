/-
  A ROW OF BYTES THAT THE CALL ITSELF MADE: what the loops keep of it: its length, that it holds bytes, that it is not frozen. What the bytes are, no law asks.
-/
import Derived.Test.Qxb6615048aModsFoot
import Derived.Laws.CopyOwn
namespace Go.Proofs.Qxb6615048aMods.Fp
open Go.RowKit

theorem hide {p : Prop} (h : p) : Hid p := h

/-- block g of w is a row of n bytes, not frozen -/
def Rw (w : World) (g n : Nat) : Prop :=
  ∃ cur : Array Value, cur.size = n ∧ w.heap[g]? = some (.cells cur 5 (0, 0)) ∧ ∀ i, i < n → ∃ z : Int, cur[i]? = some (.int .u8 z) ∧ 0 ≤ z ∧ z ≤ 255

theorem Rw.lt {w : World} {g n : Nat} (h : Rw w g n) : g < w.heap.size := by
  obtain ⟨cur, _, hg, _⟩ := h
  exact lt_of_block hg

theorem Rw.cell {w : World} {g n : Nat} (h : Rw w g n) {i : Nat} (hi : i < n) : ∃ z : Int, w.cell? ⟨g, i, none⟩ = some (.int .u8 z) ∧ 0 ≤ z ∧ z ≤ 255 := by
  obtain ⟨cur, _, hg, hc⟩ := h
  obtain ⟨z, hz, b1, b2⟩ := hc i hi
  exact ⟨z, by simp [World.cell?, hg, hz], b1, b2⟩

theorem Rw.free {w : World} {g n : Nat} (h : Rw w g n) (i : Nat) : w.frozen? ⟨g, i, none⟩ = false := by
  obtain ⟨cur, _, hg, _⟩ := h
  simp [World.frozen?, hg]

theorem Rw.store {w : World} {g n : Nat} (h : Rw w g n) (i : Nat) {z : Int} (b1 : 0 ≤ z) (b2 : z ≤ 255) : Rw (w.setCell ⟨g, i, none⟩ (.int .u8 z)) g n := by
  obtain ⟨cur, hs, hg, hc⟩ := h
  refine ⟨cur.setIfInBounds i (.int .u8 z), by simpa using hs, heap_setCell_same w g i cur 5 _ hg, fun j hj => ?_⟩
  rw [Array.getElem?_setIfInBounds]
  by_cases e : i = j
  · subst e
    rw [if_pos rfl, if_pos (by omega)]
    exact ⟨z, rfl, b1, b2⟩
  · rw [if_neg e]
    exact hc j hj

theorem Rw.other {w : World} {g n : Nat} (h : Rw w g n) {a : Addr} (ha : a.block ≠ g) (v : Value) : Rw (w.setCell a v) g n := by
  obtain ⟨cur, hs, hg, hc⟩ := h
  exact ⟨cur, hs, (heap_setCell_other w a g v (fun e => ha e.symm)).trans hg, hc⟩

theorem Rw.below {w w' : World} {B g n : Nat} (h : Rw w g n) (hb : Below B w w') (hg : g < B) : Rw w' g n := by
  obtain ⟨cur, hs, hh, hc⟩ := h
  exact ⟨cur, hs, (hb.block g hg).trans hh, hc⟩

theorem Rw.grown {w w' : World} {g n : Nat} (h : Rw w g n) (hg : w.grownBy w' none) : Rw w' g n := by
  have hl := h.lt
  obtain ⟨cur, hs, hh, hc⟩ := h
  exact ⟨cur, hs, (hg.block g hl (by simp)).trans hh, hc⟩

/-- what 'make([]byte, n)' lays -/
theorem Rw.made {w : World} {b g n : Nat} (h : w.ownsRow b 5 1 (.slice (some ⟨g, 0, none⟩) n n) n (madeCells (Value.cells (.int .u8 0)) (n * 1)).toList) : Rw w g n := by
  obtain ⟨_, h | ⟨g', cap, cur, hv, _, hg, _, _, hs, ht⟩⟩ := h
  · simp at h
  · simp only [Value.slice.injEq, Option.some.injEq, Addr.mk.injEq] at hv
    obtain ⟨⟨rfl, _⟩, _, rfl⟩ := hv
    refine ⟨cur, by simpa using hs, hg, fun i hi => ⟨0, ?_, by omega, by omega⟩⟩
    have hs' : cur.toList.length = n := by simpa using hs
    rw [Nat.mul_one, List.take_of_length_le (by omega)] at ht
    have hm : (madeCells (Value.cells (.int .u8 0)) n).toList = List.replicate n (.int .u8 0) := toList_madeCells_one _ _
    rw [hm] at ht
    rw [← Array.getElem?_toList, ht]
    simp [hi]

theorem Rw.size {w : World} {g n : Nat} {cur : List Value} (h : w.heap[g]? = some (.cells cur.toArray 5 (0, 0))) (hn : cur.length = n) (hc : ∀ v ∈ cur, ∃ z : Int, v = .int .u8 z ∧ 0 ≤ z ∧ z ≤ 255) : Rw w g n := by
  refine ⟨cur.toArray, by simpa using hn, h, fun i hi => ?_⟩
  have hi' : i < cur.length := by omega
  obtain ⟨z, e, b1, b2⟩ := hc cur[i] (List.getElem_mem hi')
  exact ⟨z, by simp [hi', e], b1, b2⟩

theorem Rw.copied {w : World} {g len : Nat} {cur : List Value} {z : List Int} (h : Hid (w.heap[g]? = some (.cells (splice cur 0 ((z.take len).map (Value.int .u8))).toArray 5 (0, 0)))) (hc : cur.length = len) (hz : len ≤ z.length)
    (hw : ∀ n ∈ z, (Lit.int .u8 n).wf = true) : Rw w g len := by
  have hl : ((z.take len).map (Value.int .u8)).length = len := by simp; omega
  have e : splice cur 0 ((z.take len).map (Value.int .u8)) = (z.take len).map (Value.int .u8) := by
    unfold splice
    rw [List.drop_of_length_le (by omega)]
    simp
  have h' := h.out
  rw [e] at h'
  refine Rw.size h' hl fun v hv => ?_
  obtain ⟨n, hn, rfl⟩ := List.mem_map.1 hv
  have := bounds_u8 (hw n (List.mem_of_mem_take hn))
  exact ⟨n, rfl, this.1, this.2⟩

/-- what the loops keep: the row A of N bytes that they fill; the copy of the data (where it has an element); all that was there before -/
structure St (w : World) (ao : Option Addr) (len A N : Nat) (wr : World) : Prop where
  row : Rw wr A N
  below : Below w.heap.size w wr
  data : 0 < len → ∃ g, ao = some ⟨g, 0, none⟩ ∧ g < A ∧ Rw wr g len
  own : w.heap.size ≤ A

theorem St.store {w wr : World} {ao : Option Addr} {len A N : Nat} (h : St w ao len A N wr) (i : Nat) {z : Int} (b1 : 0 ≤ z) (b2 : z ≤ 255) : St w ao len A N (wr.setCell ⟨A, i, none⟩ (.int .u8 z)) := by
  refine ⟨h.row.store i b1 b2, h.below.setCell h.own _, fun hl => ?_, h.own⟩
  obtain ⟨g, hg, hA, hr⟩ := h.data hl
  exact ⟨g, hg, hA, hr.other (by simp; omega) _⟩

theorem St.start {w wc w2 : World} {ao : Option Addr} {len N b : Nat} (hb : Below w.heap.size w wc) (h : w2.ownsRow b 5 1 (.slice (some ⟨wc.heap.size, 0, none⟩) N N) N (madeCells (Value.cells (.int .u8 0)) (N * 1)).toList) (hg : wc.grownBy w2 none)
    (hd : 0 < len → ∃ g, ao = some ⟨g, 0, none⟩ ∧ Rw wc g len) : St w ao len wc.heap.size N w2 := by
  refine ⟨Rw.made h, hb.grown hg hb.size (by simp), fun hl => ?_, hb.size⟩
  obtain ⟨g, e, hr⟩ := hd hl
  exact ⟨g, e, hr.lt, hr.grown hg⟩

/-- what stands ready for 'copy(zzc, data)': the row just made, and the source's cells in the world as it is there -/
theorem copy_ready {w w2 : World} {x : Addr} {len b : Nat} {z : List Int} (h : w2.ownsRow b 5 1 (.slice (some ⟨w.heap.size, 0, none⟩) len len) len (madeCells (Value.cells (.int .u8 0)) (len * 1)).toList) (hb : Below w.heap.size w w2)
    (hcell : ∀ i, i < z.length → w.cell? (x.add i) = some (.int .u8 (z.getD i 0))) :
    ∃ cur : List Value, Hid (cur.length = len) ∧ Hid (w2.heap[w.heap.size]? = some (.cells cur.toArray 5 (0, 0))) ∧ Hid (∀ j v, ((z.take len).map (Value.int .u8))[j]? = some v → w2.cell? (x.add j) = some v) := by
  obtain ⟨cur, hcs, hg, _⟩ := Rw.made h
  refine ⟨cur.toList, hide (by simpa using hcs), hide (by simpa using hg), hide fun j v hv => ?_⟩
  have hj := (List.getElem?_eq_some_iff.1 hv).1
  simp only [List.length_map, List.length_take] at hj
  have hj2 : j < z.length := by omega
  have hc := hcell j hj2
  have e : ((z.take len).map (Value.int .u8))[j]? = some (.int .u8 (z.getD j 0)) := by
    have : j < len := by omega
    simp [List.getD, this, hj2]
  rw [e] at hv
  exact (hb.cell (World.block_lt_of_cell? _ _ hc)).trans (hc.trans hv)

theorem byte_bd (c : UInt8) : 0 ≤ (c.toNat : Int) ∧ (c.toNat : Int) ≤ 255 := by
  have : c.toNat < 256 := UInt8.toNat_lt c
  omega
end Go.Proofs.Qxb6615048aMods.Fp
