import Derived.Test.Qxb6605852aScript2
namespace Go.Proofs.Qxb6605852a
open Go.RowKit Go.Shelf
set_option linter.unusedVariables false

/-- What the readers answer of a rowLocks at B that holds the model cur. -/
structure Readers (B : Nat) (w : World) (sl : Value) (ss : List Seg) (f : Nat → Nat) (sz : Nat) (cur : Nat → Nat) : Prop where
  runs : Calls Try.prog 13 #[.pointer (some ⟨B, 0, none⟩)] w fun e w' => e = .returned sl ∧ w' = w
  spill : ∀ r : Nat, r < 4294967296 → Calls Try.prog 14 #[.pointer (some ⟨B, 0, none⟩), .int .u32 (r : Int)] w fun e w' => e = .returned (.int .u32 (f r : Nat)) ∧ w' = w
  len : Calls Try.prog 18 #[.pointer (some ⟨B, 0, none⟩)] w fun e w' => e = .returned (.int .i64 (sz : Nat)) ∧ w' = w
  count : Calls Try.prog 16 #[sl] w fun e w' => e = .returned (.tuple #[.int .i64 (total ss : Nat), .bool true]) ∧ w' = w
  well : Calls Try.prog 17 #[sl] w fun e w' => e = .returned (.bool true) ∧ w' = w
  mask : ∀ r : Nat, r < 4294967296 → Calls Try.prog 21 #[sl, .int .u32 (f r : Nat), .int .u32 (r : Int)] w fun e w' => e = .returned (.int .u32 (bitOf (cur r) : Nat)) ∧ w' = w

theorem Scr.readers {B : Nat} {w : World} {C n : Nat} {T : List Nat} {ss : List Seg} {f : Nat → Nat} {sz : Nat} {cur : Nat → Nat} {hs : Nat → Bool} (h : Scr B w C n T ss f sz cur hs) (hn : n ≤ 4097) : ∃ p cap, Readers B w (.slice p (flat ss).length cap) ss f sz cur := by
  obtain ⟨⟨sv, mv, hH, hW, hSp, s1, s2⟩, s3⟩ := h.rl
  have hl := h.pl.len
  have hG : Good ss := h.pl.inv.shape.good (by omega)
  obtain ⟨p, g, cap, hsv, hR⟩ := reads_of hH hW
  subst hsv
  refine ⟨p, cap, runs_any B _ mv w hH (flat ss) hW, fun r hr => spillOf_any B r _ mv n sz f w hH hSp hr (f_lt h.pl.inv r), spillLen_any B _ mv n sz f w hH hSp, heldCount_any ss hG p g cap _ w rfl (fun e => (hR.lg e).2) hR.word, wellFormed_any ss hG h.pl.inv.shape p g cap _ w rfl (fun e => (hR.lg e).2) hR.word, fun r hr => ?_⟩
  refine (heldMask_any ss hG h.pl.inv.shape p g cap _ (f r) r w rfl hr (f_lt h.pl.inv r) (fun e => (hR.lg e).2) hR.word).mono ?_
  rintro e w' ⟨⟨M, hM, rfl⟩, rfl⟩
  exact ⟨by rw [mask_is h.pl.inv hr hM], rfl⟩

theorem bitOf_zero : bitOf 0 = 0 := rfl
theorem bitOf_pow {m : Nat} (h : m ≠ 0) : bitOf m = 2 ^ m := by unfold bitOf; rw [if_neg h]
end Go.Proofs.Qxb6605852a
