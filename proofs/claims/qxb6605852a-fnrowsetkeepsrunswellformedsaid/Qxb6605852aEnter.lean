import Derived.Test.Qxb6605852aScript3
import Derived.Test.Qxb6605852aAgree
namespace Go.Proofs.Qxb6605852a
open Go.RowKit Go.Shelf
set_option linter.unusedVariables false

/-- A slice that came in. -/
def In (k : IntKind) (w : World) (a : Option Addr) (len cap : Nat) (rs : List Nat) : Prop :=
  (a = none ∧ len = 0 ∧ cap = 0) ∨ ∃ x, a = some x ∧ len ≤ rs.length ∧ ∀ i, i < len → w.cell? (x.add i) = some (.int k (gw rs i : Nat))

theorem In.below {k : IntKind} {w w' : World} {a : Option Addr} {len cap : Nat} {rs : List Nat} (h : In k w a len cap rs) (hb : Below w.heap.size w w') : In k w' a len cap rs := by
  rcases h with h | ⟨x, h1, h2, h3⟩
  · exact .inl h
  · exact .inr ⟨x, h1, h2, fun i hi => (hb.cell (cell_lt (h3 i hi))).trans (h3 i hi)⟩
theorem Rd.below {k : IntKind} {w w' : World} {p : Option Addr} {b len : Nat} {rs : List Nat} (h : Rd k w p b len rs) (hb : Below w.heap.size w w') : Rd k w' p b len rs :=
  fun i hi => ⟨(h i hi).1, (hb.cell (cell_lt (h i hi).2)).trans (h i hi).2⟩

theorem take_gw (rs : List Nat) (len i : Nat) (h : i < len) : gw (rs.take len) i = gw rs i := gw_take h

theorem clone22 (a : Option Addr) (len cap : Nat) (rs : List Nat) (w : World) (h : In .u32 w a len cap rs) (hb : len ≤ 4096) :
    Calls Try.prog 7 #[.slice a len cap] w fun e w' => ∃ p b, e = .returned (.slice p len len) ∧ Rd .u32 w' p b len rs ∧ Below w.heap.size w w' := by
  rcases h with ⟨rfl, rfl, rfl⟩ | ⟨x, rfl, hl, hx⟩
  · refine (clone22_nil w).mono ?_
    rintro e w' ⟨rfl, rfl⟩
    exact ⟨none, 0, rfl, fun i hi => absurd hi (by omega), Below.refl _ _⟩
  · refine (clone22_some x len cap (rs.take len) w (by simp; omega) hb (fun i hi => by rw [take_gw rs len i hi]; exact hx i hi)).mono ?_
    rintro e w' ⟨rfl, hR, hB⟩
    exact ⟨_, w.heap.size, rfl, fun i hi => ⟨rfl, by rw [← take_gw rs len i hi]; exact hR.cell i (by simp; omega)⟩, hB⟩

theorem clone23 (a : Option Addr) (len cap : Nat) (rs : List Nat) (w : World) (h : In .u8 w a len cap rs) (hb : len ≤ 4096) :
    Calls Try.prog 8 #[.slice a len cap] w fun e w' => ∃ p b, e = .returned (.slice p len len) ∧ Rd .u8 w' p b len rs ∧ Below w.heap.size w w' := by
  rcases h with ⟨rfl, rfl, rfl⟩ | ⟨x, rfl, hl, hx⟩
  · refine (clone23_nil w).mono ?_
    rintro e w' ⟨rfl, rfl⟩
    exact ⟨none, 0, rfl, fun i hi => absurd hi (by omega), Below.refl _ _⟩
  · refine (clone23_some x len cap (rs.take len) w (by simp; omega) hb (fun i hi => by rw [take_gw rs len i hi]; exact hx i hi)).mono ?_
    rintro e w' ⟨rfl, hR, hB⟩
    exact ⟨_, w.heap.size, rfl, fun i hi => ⟨rfl, by rw [← take_gw rs len i hi]; exact hR.cell i (by simp; omega)⟩, hB⟩

set_option maxHeartbeats 600000 in
theorem bytes12 (a0 a1 : Option Addr) (len0 cap0 len1 cap1 : Nat) (h0 : len0 ≤ maxLen) (h1 : len1 ≤ maxLen) (w : World) : Calls Try.prog 12 #[.slice a0 len0 cap0, .slice a1 len1 cap1] w fun e w' => (∃ b, e = .returned (.bool b)) ∧ w' = w := by
  unfold maxLen at h0 h1
  go_enter Try.func12, Try.ntmps12
  go_wp2
  all_goals
    go_ret
    exact ⟨⟨_, rfl⟩, rfl⟩

set_option maxHeartbeats 600000 in
theorem bytes5 (a0 a1 : Option Addr) (len0 cap0 len1 cap1 : Nat) (v2 v3 v4 : Value) (h0 : len0 ≤ maxLen) (h1 : len1 ≤ maxLen) (w : World) : Calls Try.prog 5 #[.slice a0 len0 cap0, .slice a1 len1 cap1, v2, v3, v4] w fun e w' => (∃ b, e = .returned (.bool b)) ∧ w' = w := by
  unfold maxLen at h0 h1
  go_enter Try.func5, Try.ntmps5
  go_wp2
  all_goals
    go_ret
    exact ⟨⟨_, rfl⟩, rfl⟩

/-- A mode's bit is one of the bits of a row's modes. -/
theorem andNot_bits (m : Nat) (h : okMode m) (h0 : m ≠ 0) : (bits .andNot .u32 ((2 ^ m : Nat) : Int) 4187134 != 0) = false := by
  have : m = 1 ∨ m = 2 ∨ m = 3 ∨ m = 4 ∨ m = 5 ∨ m = 6 ∨ m = 7 ∨ m = 8 ∨ m = 9 ∨ m = 13 ∨ m = 14 ∨ m = 15 ∨ m = 16 ∨ m = 17 ∨ m = 18 ∨ m = 19 ∨ m = 20 ∨ m = 21 := by
    unfold okMode at h
    omega
  rcases this with rfl | rfl | rfl | rfl | rfl | rfl | rfl | rfl | rfl | rfl | rfl | rfl | rfl | rfl | rfl | rfl | rfl | rfl <;> decide
end Go.Proofs.Qxb6605852a
