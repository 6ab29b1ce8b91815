import Derived.Test.Qxb6605852aSet
namespace Go.Proofs.Qxb6605852a
open Go.RowKit Go.Shelf
set_option linter.unusedVariables false

def rowModeB (m : Nat) : Bool := decide (m ≤ 9) || (decide (13 ≤ m) && decide (m ≤ 21))
theorem rowModeB_iff (m : Nat) : rowModeB m = true ↔ okMode m := by
  unfold rowModeB okMode
  simp

set_option maxHeartbeats 400000 in
theorem rowMode_any (m : Nat) (hm : m < 256) (w : World) : Calls Try.prog 6 #[.int .u8 m] w fun e w' => e = .returned (.bool (rowModeB m)) ∧ w' = w := by
  go_enter Try.func6, Try.ntmps6
  go_wp2
  all_goals
    go_ret
    refine ⟨ret_bool ?_, rfl⟩
    rw [Bool.eq_iff_iff]
    unfold rowModeB
    simp only [Bool.or_eq_true, Bool.and_eq_true, decide_eq_true_eq]
    try rw [true_iff]
    omega

set_option maxHeartbeats 400000 in
theorem new_any (w : World) : Calls Try.prog 19 #[] w fun e w' => e = .returned (.pointer (some ⟨w.heap.size, 0, none⟩)) ∧ w' = w.alloc (.cells #[.slice none 0 0, .map none] 52) := by
  go_enter Try.func19, Try.ntmps19
  go_wp2
  go_ret
  exact ⟨rfl, rfl⟩

set_option maxHeartbeats 400000 in
theorem runs_any (rb : Nat) (sv mv : Value) (w : World) (h : RlAt w rb sv mv) (ws : List Nat) (hW : Words w sv ws) : Calls Try.prog 13 #[.pointer (some ⟨rb, 0, none⟩)] w fun e w' => e = .returned sv ∧ w' = w := by
  obtain ⟨p, cap, hsv, _⟩ := words_shape hW
  have c := h.c0
  subst hsv
  clear h hW
  go_enter Try.func13, Try.ntmps13
  go_wp2
  go_ret
  exact ⟨rfl, rfl⟩

set_option maxHeartbeats 400000 in
theorem spillOf_any (rb row : Nat) (sv mv : Value) (n sz : Nat) (f : Nat → Nat) (w : World) (h : RlAt w rb sv mv) (hS : Spill w mv n f sz) (hr : row < 4294967296) (hf : f row < 4294967296) : Calls Try.prog 14 #[.pointer (some ⟨rb, 0, none⟩), .int .u32 row] w fun e w' => e = .returned (.int .u32 (f row : Nat)) ∧ w' = w := by
  have c := h.c1
  have hfi : (f row : Int) < 4294967296 := by omega
  rcases hS with ⟨rfl, hz, rfl⟩ | ⟨b, rfl, hM⟩
  · have hl : (Instr.lookup 50 (.map none) (.int .u32 (row : Int)) false).run Try.prog w = .ok (.int .u32 0) w := by
      have := Maps.look_nil (w := w) false law24 u50 (zero53 w) (key32 hr)
      simpa using this
    have HZ : Hid (f row = 0) := hz row
    clear hz h hf hfi
    rw [HZ.out]
    go_enter Try.func14, Try.ntmps14
    go_wp2
    go_ret
    exact ⟨rfl, rfl⟩
  · have hl := hM.look u50 u53 (zero53 w) row hr
    clear hM h
    go_enter Try.func14, Try.ntmps14
    go_wp2
    go_ret
    exact ⟨rfl, rfl⟩

set_option maxHeartbeats 400000 in
theorem spillLen_any (rb : Nat) (sv mv : Value) (n sz : Nat) (f : Nat → Nat) (w : World) (h : RlAt w rb sv mv) (hS : Spill w mv n f sz) : Calls Try.prog 18 #[.pointer (some ⟨rb, 0, none⟩)] w fun e w' => e = .returned (.int .i64 (sz : Nat)) ∧ w' = w := by
  have c := h.c1
  rcases hS with ⟨rfl, hz, rfl⟩ | ⟨b, rfl, hM⟩
  · have hl := fun ty => Maps.len_nil (w := w) u50 ty
    clear hz h
    go_enter Try.func18, Try.ntmps18
    go_wp2
    go_ret
    exact ⟨rfl, rfl⟩
  · have hl := fun ty => hM.len u50 ty
    clear hM h
    go_enter Try.func18, Try.ntmps18
    go_wp2
    go_ret
    exact ⟨rfl, rfl⟩
end Go.Proofs.Qxb6605852a
