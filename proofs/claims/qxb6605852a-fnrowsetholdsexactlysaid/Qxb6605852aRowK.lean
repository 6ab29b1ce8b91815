import Derived.Test.Qxb6605852aMask2
namespace Go.Proofs.Qxb6605852a
open Go.RowKit Go.Shelf
set_option linter.unusedVariables false

def encK (k : IntKind) (z : Nat) : Value := .int k (z : Int)

/-- Block b is a row of numbers of kind k, element type t, known whole. -/
def RowK (k : IntKind) (t : TypeId) (w : World) (b : Nat) (zs : List Nat) : Prop := w.heap[b]? = some (.cells (zs.map (encK k)).toArray t (0, 0))

theorem RowK.lt {k : IntKind} {t : TypeId} {w : World} {b : Nat} {zs : List Nat} (h : RowK k t w b zs) : b < w.heap.size := (Array.getElem?_eq_some_iff.1 h).1
theorem RowK.cell {k : IntKind} {t : TypeId} {w : World} {b : Nat} {zs : List Nat} (h : RowK k t w b zs) (i : Nat) (hi : i < zs.length) : w.cell? ⟨b, i, none⟩ = some (.int k (gw zs i : Nat)) := by
  unfold RowK at h
  simp [World.cell?, h, hi, encK, gw_of_lt hi]
theorem RowK.frozen {k : IntKind} {t : TypeId} {w : World} {b : Nat} {zs : List Nat} (h : RowK k t w b zs) (i : Nat) : w.frozen? ⟨b, i, none⟩ = false := by
  unfold RowK at h
  simp [World.frozen?, h]
theorem RowK.kept {S : Nat → Prop} {k : IntKind} {t : TypeId} {w w' : World} {b : Nat} {zs : List Nat} (h : RowK k t w b zs) (hf : Foot S w w') (hn : ¬ S b) : RowK k t w' b zs := (hf.block b h.lt hn).trans h
theorem RowK.setCell {k : IntKind} {t : TypeId} {w : World} {b : Nat} {zs : List Nat} (h : RowK k t w b zs) (i z : Nat) : RowK k t (w.setCell ⟨b, i, none⟩ (.int k (z : Nat))) b (zs.set i z) := by
  unfold RowK at *
  simp only [World.setCell, Array.getElem?_modify, if_true, h, Option.map_some]
  congr 2
  rw [List.map_set]
  simp [encK]

def zrowK (k : IntKind) (c : Nat) : Array Value := ((List.replicate c 0).map (encK k)).toArray
theorem rowK_new (k : IntKind) (t : TypeId) (w : World) (c : Nat) : RowK k t (w.alloc (.cells (zrowK k c) t)) w.heap.size (List.replicate c 0) := by
  unfold RowK
  show (w.heap.push _)[w.heap.size]? = _
  simp [zrowK]

theorem madeK_eq (k : IntKind) (c : Nat) : madeCells (Value.int k 0).cells (c * 1) = zrowK k c := by
  apply Array.ext
  · simp [size_madeCells, zrowK]
  · intro i h1 h2
    simp [madeCells, zrowK, Value.cells, encK, Nat.mod_one]

theorem info24 : (Try.prog.info? 24).map (fun i => (i.zero, i.size, i.bytes)) = some (some (.int .u32 0), 1, 4) := by kernel_rfl
theorem info5 : (Try.prog.info? 5).map (fun i => (i.zero, i.size, i.bytes)) = some (some (.int .u8 0), 1, 1) := by kernel_rfl

theorem make22 (n c : Nat) (h : n ≤ c) (hc : c ≤ 1000000) (w : World) :
    (Instr.makeSlice 22 (.int .i64 (n : Int)) (.int .i64 (c : Int))).run Try.prog w = .ok (.slice (some ⟨w.heap.size, 0, none⟩) n c) (w.alloc (.cells (zrowK .u32 c) 24)) := by
  obtain ⟨i, hi, hz, h1, h2⟩ := info_parts info24
  have := run_make (P := Try.prog) w 22 24 i (.int .u32 0) Try.underlying22 hi hz .i64 .i64 (n : Int) (c : Int) (by omega) (by omega) (by rw [h2]; omega) (by omega)
  rw [this, h1, Int.toNat_natCast, Int.toNat_natCast, madeK_eq]

theorem make23 (n c : Nat) (h : n ≤ c) (hc : c ≤ 1000000) (w : World) :
    (Instr.makeSlice 23 (.int .i64 (n : Int)) (.int .i64 (c : Int))).run Try.prog w = .ok (.slice (some ⟨w.heap.size, 0, none⟩) n c) (w.alloc (.cells (zrowK .u8 c) 5)) := by
  obtain ⟨i, hi, hz, h1, h2⟩ := info_parts info5
  have := run_make (P := Try.prog) w 23 5 i (.int .u8 0) Try.underlying23 hi hz .i64 .i64 (n : Int) (c : Int) (by omega) (by omega) (by rw [h2]; omega) (by omega)
  rw [this, h1, Int.toNat_natCast, Int.toNat_natCast, madeK_eq]

/-- A slice of numbers: nil, or a row that is known whole. -/
def SlK (k : IntKind) (t : TypeId) (w : World) (v : Value) (rs : List Nat) : Prop :=
  (v = .slice none 0 0 ∧ rs = []) ∨ ∃ b, v = .slice (some ⟨b, 0, none⟩) rs.length rs.length ∧ RowK k t w b rs
end Go.Proofs.Qxb6605852a
