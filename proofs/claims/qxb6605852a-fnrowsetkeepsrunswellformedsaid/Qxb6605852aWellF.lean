import Derived.Test.Qxb6605852aCount
namespace Go.Proofs.Qxb6605852a
open Go.RowKit Go.Shelf
set_option linter.unusedVariables false

theorem pow_mod32 (m : Nat) (hm : m < 32) : (2 : Int) ^ m % 4294967296 = ((2 ^ m : Nat) : Int) := by
  have h := wrap32_pow m hm
  rw [IntKind.wrap_u32] at h
  exact h

theorem and32_ne (s m : Nat) (hs : s < 4294967296) (hm : m < 32) : (bits .and .u32 (s : Int) ((2 : Int) ^ m % 4294967296) != 0) = s.testBit m := by
  rw [pow_mod32 m hm, u32_and_nat _ _ hs (pow_lt32 m hm), and_pow]
  cases hb : s.testBit m with
  | true =>
    have : (2 : Nat) ^ m ≠ 0 := Nat.ne_of_gt (Nat.pow_pos (by omega))
    simp only [if_true]
    rw [bne_iff_ne]
    omega
  | false => simp

theorem or32_bit (s m : Nat) (hs : s < 4294967296) (hm : m < 32) : bits .or .u32 (s : Int) ((2 : Int) ^ m % 4294967296) = ((s ||| 2 ^ m : Nat) : Int) := by
  rw [pow_mod32 m hm, u32_or_nat _ _ hs (pow_lt32 m hm)]

theorem or32_lt (s m : Nat) (hs : s < 4294967296) (hm : m < 32) : s ||| 2 ^ m < 4294967296 := Nat.or_lt_two_pow (n := 32) hs (pow_lt32 m hm)

theorem or_testBit (s m i : Nat) : (s ||| 2 ^ m).testBit i = (s.testBit i || decide (m = i)) := by
  rw [Nat.testBit_or, Nat.testBit_two_pow]
end Go.Proofs.Qxb6605852a
