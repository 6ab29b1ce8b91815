import Derived.Test.Qxb6605852aBits
import Derived.Test.Qxb6605852aClass
import Derived.Sort.Row
import Derived.Laws.CopyOwn
namespace Go.Proofs.Qxb6605852a
open Go.RowKit Go.Sort

def encU (z : Nat) : Value := .int .u64 (z : Int)

/-- Block g is a row of words, known whole. -/
def RowAt (w : World) (g : Nat) (zs : List Nat) : Prop := w.heap[g]? = some (.cells (zs.map encU).toArray 42 (0, 0))

theorem RowAt.lt {w : World} {g : Nat} {zs : List Nat} (h : RowAt w g zs) : g < w.heap.size := (Array.getElem?_eq_some_iff.1 h).1

theorem RowAt.cell {w : World} {g : Nat} {zs : List Nat} (h : RowAt w g zs) (i : Nat) (hi : i < zs.length) : w.cell? ⟨g, i, none⟩ = some (.int .u64 (gw zs i : Nat)) := by
  unfold RowAt at h
  simp [World.cell?, h, hi, encU, gw_of_lt hi]

theorem RowAt.frozen {w : World} {g : Nat} {zs : List Nat} (h : RowAt w g zs) (i : Nat) : w.frozen? ⟨g, i, none⟩ = false := by
  unfold RowAt at h
  simp [World.frozen?, h]

theorem RowAt.of_block {w w' : World} {g : Nat} {zs : List Nat} (h : RowAt w g zs) (hb : w'.heap[g]? = w.heap[g]?) : RowAt w' g zs := by
  unfold RowAt at *
  rw [hb]; exact h

theorem RowAt.holds {w : World} {g : Nat} {zs : List Nat} (h : RowAt w g zs) (n : Nat) (hn : n ≤ zs.length) : Holds encU w g 0 (zs.take n).toArray := by
  intro j hj
  have hj' : j < n := by simp at hj; omega
  refine ⟨?_, ?_⟩
  · rw [Nat.zero_add, h.cell j (by omega)]
    have : (zs.take n).toArray[j]! = gw zs j := by
      rw [getElem!_pos _ j hj, gw_of_lt (by omega)]
      simp
    rw [this]
    rfl
  · rw [Nat.zero_add]; exact h.frozen j

theorem RowAt.setCell {w : World} {g : Nat} {zs : List Nat} (h : RowAt w g zs) (i : Nat) (z : Nat) : RowAt (w.setCell ⟨g, i, none⟩ (.int .u64 (z : Nat))) g (zs.set i z) := by
  unfold RowAt at *
  simp only [World.setCell, Array.getElem?_modify, if_true, h, Option.map_some]
  congr 2
  rw [List.map_set]
  simp [encU]

theorem heap_setCell_ne (w : World) (a : Addr) (v : Value) (k : Nat) (h : a.block ≠ k) : (w.setCell a v).heap[k]? = w.heap[k]? := by
  simp only [World.setCell, Array.getElem?_modify, if_neg h]

theorem RowAt.putRow {w : World} {g : Nat} {zs : List Nat} (h : RowAt w g zs) (d : List Nat) (hd : d.length ≤ zs.length) : RowAt (putRow encU w g 0 d.toArray) g (d ++ zs.drop d.length) := by
  unfold RowAt at *
  simp only [Sort.putRow, mapBlock, Array.getElem?_modify, if_true, h, Option.map_some, onCells]
  congr 2
  apply Array.ext_getElem?
  intro i
  simp only [putCells, Array.getElem?_mapIdx, List.getElem?_toArray, List.getElem?_map, List.size_toArray]
  by_cases hi : i < d.length
  · have hz : i < zs.length := by omega
    simp [hi, hz, List.getElem?_append]
  · by_cases hz : i < zs.length
    · have e : d.length + (i - d.length) = i := by omega
      simp [hi, hz, List.getElem?_append, e]
    · have : zs.length ≤ d.length + (i - d.length) := by omega
      simp [hi, hz, List.getElem?_append, List.getElem?_eq_none this]

theorem heap_putRow_ne (w : World) (g : Nat) (d : Array Nat) (k : Nat) (h : g ≠ k) : (putRow encU w g 0 d).heap[k]? = w.heap[k]? := by
  simp only [Sort.putRow, mapBlock, Array.getElem?_modify, if_neg h]

theorem RowAt.drewN {w : World} {g : Nat} {zs : List Nat} (h : RowAt w g zs) (n : Nat) : RowAt (w.drewN n) g zs := h
theorem RowAt.ahead {w : World} {g : Nat} {zs : List Nat} (h : RowAt w g zs) (n : Nat) : RowAt (Sort.ahead w n) g zs := h
theorem RowAt.alloc {w : World} {g : Nat} {zs : List Nat} (h : RowAt w g zs) (o : Obj) : RowAt (w.alloc o) g zs := h.of_block (Below.heap_alloc _ _ _ h.lt)
theorem RowAt.below {w w' : World} {g : Nat} {zs : List Nat} (h : RowAt w g zs) {B : Nat} (hb : Below B w w') (hg : g < B) : RowAt w' g zs := h.of_block (hb.block g hg)

/-- A slice of words: nil, or the head of a row that is known whole. -/
def Words (w : World) (v : Value) (ws : List Nat) : Prop :=
  (v = .slice none 0 0 ∧ ws = []) ∨ ∃ g zs, v = .slice (some ⟨g, 0, none⟩) ws.length zs.length ∧ RowAt w g zs ∧ ws.length ≤ zs.length ∧ zs.take ws.length = ws ∧ zs.length ≤ 1000000 ∧ 0 < zs.length

end Go.Proofs.Qxb6605852a
