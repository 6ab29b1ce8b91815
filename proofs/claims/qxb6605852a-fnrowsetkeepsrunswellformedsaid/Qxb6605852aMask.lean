import Derived.Test.Qxb6605852aWellF2
namespace Go.Proofs.Qxb6605852a
open Go.RowKit Go.Shelf
set_option linter.unusedVariables false

/-- What one segment says of a row. -/
def segHolds (s : Seg) (row i : Nat) : Prop := (s.mode ≠ 0 ∧ i = s.mode ∧ inBits s.words (offs row s.first) = true) ∨ (s.mode = 0 ∧ lw row i ∈ s.words)

/-- The mask after k segments, begun with b. -/
def MaskIs (ss : List Seg) (row b k M : Nat) : Prop := M < 4294967296 ∧ ∀ i, M.testBit i = true ↔ b.testBit i = true ∨ ∃ s ∈ ss.take k, segHolds s row i
/-- .. and after t words of the list, begun with M0. -/
def MaskIn (ws : List Nat) (row M0 t M : Nat) : Prop := M < 4294967296 ∧ ∀ i, M.testBit i = true ↔ M0.testBit i = true ∨ lw row i ∈ ws.take t

theorem mask_zero (ss : List Seg) (row b : Nat) (hb : b < 4294967296) : MaskIs ss row b 0 b := ⟨hb, fun i => by simp⟩
theorem maskIn_zero (ws : List Nat) (row M0 : Nat) (hb : M0 < 4294967296) : MaskIn ws row M0 0 M0 := ⟨hb, fun i => by simp⟩

theorem mask_succ {ss : List Seg} {row b k M M' : Nat} (hk : k < ss.length) (h : MaskIs ss row b k M) (h1 : M' < 4294967296) (h2 : ∀ i, M'.testBit i = true ↔ M.testBit i = true ∨ segHolds ss[k] row i) : MaskIs ss row b (k + 1) M' := by
  refine ⟨h1, fun i => ?_⟩
  rw [h2, h.2, List.take_succ_eq_append_getElem hk]
  simp only [List.mem_append, List.mem_singleton]
  constructor
  · rintro ((a | ⟨s, hs, a⟩) | a)
    · exact .inl a
    · exact .inr ⟨s, .inl hs, a⟩
    · exact .inr ⟨_, .inr rfl, a⟩
  · rintro (a | ⟨s, hs | rfl, a⟩)
    · exact .inl (.inl a)
    · exact .inl (.inr ⟨s, hs, a⟩)
    · exact .inr a

theorem maskIn_other {ws : List Nat} {row M0 t M : Nat} (ht : t < ws.length) (h : MaskIn ws row M0 t M) (hn : ∀ i, gw ws t ≠ lw row i) : MaskIn ws row M0 (t + 1) M := by
  refine ⟨h.1, fun i => ?_⟩
  rw [h.2, List.take_succ_eq_append_getElem ht]
  simp only [List.mem_append, List.mem_singleton, ← gw_of_lt ht]
  constructor
  · rintro (a | a)
    · exact .inl a
    · exact .inr (.inl a)
  · rintro (a | a | a)
    · exact .inl a
    · exact .inr a
    · exact absurd a.symm (hn i)

theorem maskIn_hit {ws : List Nat} {row M0 t M md : Nat} (hr : row < 4294967296) (ht : t < ws.length) (hm : md < 32) (h : MaskIn ws row M0 t M) (he : gw ws t = lw row md) : MaskIn ws row M0 (t + 1) (M ||| 2 ^ md) := by
  refine ⟨or32_lt _ _ h.1 hm, fun i => ?_⟩
  rw [or_testBit, Bool.or_eq_true, h.2, List.take_succ_eq_append_getElem ht]
  simp only [List.mem_append, List.mem_singleton, ← gw_of_lt ht, decide_eq_true_eq, he]
  constructor
  · rintro ((a | a) | rfl)
    · exact .inl a
    · exact .inr (.inl a)
    · exact .inr (.inr rfl)
  · rintro (a | a | a)
    · exact .inl (.inl a)
    · exact .inl (.inr a)
    · exact .inr (lw_inj hr hr a).2.symm
end Go.Proofs.Qxb6605852a
