import Derived.Test.Qxb6605852aPlay
namespace Go.Proofs.Qxb6605852a
open Go.RowKit Go.Shelf
set_option linter.unusedVariables false

theorem cell_lt {w : World} {a : Addr} {v : Value} (h : w.cell? a = some v) : a.block < w.heap.size := by
  by_cases hb : a.block < w.heap.size
  · exact hb
  · exfalso
    have : w.heap[a.block]? = none := Array.getElem?_eq_none (by omega)
    simp [World.cell?, this] at h

theorem eq_nil_22 (w : World) : (binOp .eql 22 (.slice none 0 0) (.slice none 0 0)).run Try.prog w = .ok (.bool true) w := by kernel_rfl
theorem eq_some_22 (x : Addr) (n c : Nat) (w : World) : (binOp .eql 22 (.slice (some x) n c) (.slice none 0 0)).run Try.prog w = .ok (.bool false) w := by kernel_rfl

theorem clone22_nil (w : World) : Calls Try.prog 7 #[.slice none 0 0] w fun e w' => e = .returned (.slice none 0 0) ∧ w' = w := by
  have heq := eq_nil_22
  go_enter Try.func7, Try.ntmps7
  go_wp2
  go_ret
  exact ⟨rfl, rfl⟩

set_option maxHeartbeats 600000 in
theorem clone22_some (x : Addr) (len cap : Nat) (rs : List Nat) (w : World) (hl : rs.length = len) (hb : len ≤ 4096) (hx : ∀ i, i < len → w.cell? (x.add i) = some (.int .u32 (gw rs i : Nat))) :
    Calls Try.prog 7 #[.slice (some x) len cap] w fun e w' => e = .returned (.slice (some ⟨w.heap.size, 0, none⟩) len len) ∧ RowK .u32 24 w' w.heap.size rs ∧ Below w.heap.size w w' := by
  have hmk := fun w => make22 len len (Nat.le_refl _) (by omega) w
  have heq := eq_some_22 x len cap
  have HX : Hid (∀ i, i < len → w.cell? (x.add i) = some (.int .u32 (gw rs i : Nat))) := hx
  have HL : Hid (rs.length = len) := hl
  have hli : (len : Int) ≤ 4096 := by omega
  clear hx hl
  go_enter Try.func7, Try.ntmps7
  go_wp2
  go_loopw [4] (fun i wr => ∃ k : Nat, k ≤ len ∧ i = .int .i64 k ∧ ∃ zs, Hid (RowK .u32 24 wr w.heap.size zs) ∧ Hid (zs.length = len ∧ zs.take k = rs.take k) ∧ Hid (Below w.heap.size w wr)) (fun i _ => len - (intOf i).toNat)
  case atStart =>
    exact ⟨0, Nat.zero_le _, rfl, _, rowK_new .u32 24 w len, ⟨by simp, by simp⟩, (Below.refl _ _).alloc (Nat.le_refl _) _⟩
  case round =>
    obtain ⟨k, hk, rfl, zs, HR, HZ, HB⟩ := hrel
    by_cases hlt : k < len
    · have hc0 := HX.out k hlt
      have hblk : (x.add k).block < w.heap.size := cell_lt hc0
      have hc1 := (HB.out.cell hblk).trans hc0
      obtain ⟨V, hV⟩ : ∃ V, gw rs k = V := ⟨_, rfl⟩
      rw [hV] at hc1
      have HV : Hid (gw rs k = V) := hV
      have hfz := HR.out.frozen k
      have hce := HR.out.cell k (by rw [HZ.out.1]; exact hlt)
      have hlt2 : (k : Int) < (len : Int) := by omega
      clear hV hc0 hblk
      go_wp2
      refine ⟨⟨k + 1, by omega, by go_num, _, HR.out.setCell k V, ⟨by rw [List.length_set]; exact HZ.out.1, ?_⟩, HB.out.setCell (Nat.le_refl _) _⟩, ?_⟩
      · have h1 := HZ.out.1
        have h2 := HZ.out.2
        have h3 := HL.out
        rw [List.take_succ_eq_append_getElem (by rw [List.length_set]; omega), List.take_succ_eq_append_getElem (by omega), List.take_set_of_le (Nat.le_refl k), h2, List.getElem_set_self, ← HV.out, gw_of_lt (by omega)]
      · simp [intOf]; omega
    · obtain rfl : k = len := by omega
      go_wp2
      go_ret
      refine ⟨rfl, ?_, HB.out⟩
      have h1 := HZ.out.1
      have h2 := HZ.out.2
      have h3 := HL.out
      rw [List.take_of_length_le (by omega), List.take_of_length_le (by omega)] at h2
      rw [← h2]
      exact HR.out

theorem eq_nil_23 (w : World) : (binOp .eql 23 (.slice none 0 0) (.slice none 0 0)).run Try.prog w = .ok (.bool true) w := by kernel_rfl
theorem eq_some_23 (x : Addr) (n c : Nat) (w : World) : (binOp .eql 23 (.slice (some x) n c) (.slice none 0 0)).run Try.prog w = .ok (.bool false) w := by kernel_rfl

theorem clone23_nil (w : World) : Calls Try.prog 8 #[.slice none 0 0] w fun e w' => e = .returned (.slice none 0 0) ∧ w' = w := by
  have heq := eq_nil_23
  go_enter Try.func8, Try.ntmps8
  go_wp2
  go_ret
  exact ⟨rfl, rfl⟩

set_option maxHeartbeats 600000 in
theorem clone23_some (x : Addr) (len cap : Nat) (rs : List Nat) (w : World) (hl : rs.length = len) (hb : len ≤ 4096) (hx : ∀ i, i < len → w.cell? (x.add i) = some (.int .u8 (gw rs i : Nat))) :
    Calls Try.prog 8 #[.slice (some x) len cap] w fun e w' => e = .returned (.slice (some ⟨w.heap.size, 0, none⟩) len len) ∧ RowK .u8 5 w' w.heap.size rs ∧ Below w.heap.size w w' := by
  have hmk := fun w => make23 len len (Nat.le_refl _) (by omega) w
  have heq := eq_some_23 x len cap
  have HX : Hid (∀ i, i < len → w.cell? (x.add i) = some (.int .u8 (gw rs i : Nat))) := hx
  have HL : Hid (rs.length = len) := hl
  have hli : (len : Int) ≤ 4096 := by omega
  clear hx hl
  go_enter Try.func8, Try.ntmps8
  go_wp2
  go_loopw [4] (fun i wr => ∃ k : Nat, k ≤ len ∧ i = .int .i64 k ∧ ∃ zs, Hid (RowK .u8 5 wr w.heap.size zs) ∧ Hid (zs.length = len ∧ zs.take k = rs.take k) ∧ Hid (Below w.heap.size w wr)) (fun i _ => len - (intOf i).toNat)
  case atStart =>
    exact ⟨0, Nat.zero_le _, rfl, _, rowK_new .u8 5 w len, ⟨by simp, by simp⟩, (Below.refl _ _).alloc (Nat.le_refl _) _⟩
  case round =>
    obtain ⟨k, hk, rfl, zs, HR, HZ, HB⟩ := hrel
    by_cases hlt : k < len
    · have hc0 := HX.out k hlt
      have hblk : (x.add k).block < w.heap.size := cell_lt hc0
      have hc1 := (HB.out.cell hblk).trans hc0
      obtain ⟨V, hV⟩ : ∃ V, gw rs k = V := ⟨_, rfl⟩
      rw [hV] at hc1
      have HV : Hid (gw rs k = V) := hV
      have hfz := HR.out.frozen k
      have hce := HR.out.cell k (by rw [HZ.out.1]; exact hlt)
      have hlt2 : (k : Int) < (len : Int) := by omega
      clear hV hc0 hblk
      go_wp2
      refine ⟨⟨k + 1, by omega, by go_num, _, HR.out.setCell k V, ⟨by rw [List.length_set]; exact HZ.out.1, ?_⟩, HB.out.setCell (Nat.le_refl _) _⟩, ?_⟩
      · have h1 := HZ.out.1
        have h2 := HZ.out.2
        have h3 := HL.out
        rw [List.take_succ_eq_append_getElem (by rw [List.length_set]; omega), List.take_succ_eq_append_getElem (by omega), List.take_set_of_le (Nat.le_refl k), h2, List.getElem_set_self, ← HV.out, gw_of_lt (by omega)]
      · simp [intOf]; omega
    · obtain rfl : k = len := by omega
      go_wp2
      go_ret
      refine ⟨rfl, ?_, HB.out⟩
      have h1 := HZ.out.1
      have h2 := HZ.out.2
      have h3 := HL.out
      rw [List.take_of_length_le (by omega), List.take_of_length_le (by omega)] at h2
      rw [← h2]
      exact HR.out
end Go.Proofs.Qxb6605852a
