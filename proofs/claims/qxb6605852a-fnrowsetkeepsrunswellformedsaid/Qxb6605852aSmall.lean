import Derived.Test.Qxb6605852aRows
import Derived.Test.Qxb6605852aClass
import Derived.Test.Qxb6605852aBits
import Derived.Test.Qxb6605852aMem
import Derived.Test.Qxb6605852aSeg
import Derived.Test.Qxb6605852aShelf
import Derived.WalkKit
import Derived.WalkSpells
import Derived.WalkLawsBesides
import Derived.Deep.QuietTactic
import Derived.BigQuiet
import Derived.Lib.QuoteBits
namespace Go.Proofs.Qxb6605852a
open Go.RowKit
set_option linter.unusedVariables false

theorem ret_bool {a b : Bool} (h : a = b) : Ending.returned (.bool a) = .returned (.bool b) := by rw [h]
theorem ret_int {k : IntKind} {a b : Int} (h : a = b) : Ending.returned (.int k a) = .returned (.int k b) := by rw [h]
theorem val_int {k : IntKind} {x y : Int} (h : x = y) : Value.int k x = .int k y := by rw [h]

theorem ret_run {a b c d : Int} {x : Option Addr} {l l' k : Nat} (h1 : a = c) (h2 : b = d) (h3 : l = l') :
    Ending.returned (.tuple #[.int .u32 a, .int .u8 b, .slice x l k]) = .returned (.tuple #[.int .u32 c, .int .u8 d, .slice x l' k]) := by rw [h1, h2, h3]

theorem hd_mode (h : Nat) (hh : h < 18446744073709551616) : bits .and .u64 ((h : Int) / 4294967296) 31 % 256 = ((h / 4294967296 % 32 : Nat) : Int) := by
  have e : ((h : Int) / 4294967296) = ((h / 4294967296 : Nat) : Int) := by omega
  have e2 : (31 : Int) = ((31 : Nat) : Int) := rfl
  rw [e, e2, u64_and_nat _ _ (by omega) (by omega), nat_mask5]
  omega

set_option maxHeartbeats 400000 in
theorem run_any (rb g cap i len h m : Nat) (w : World) (hi : i < len) (hl : len ≤ 100000) (hcap : len ≤ cap) (hm1 : 1 ≤ m) (hm : i + 1 + m ≤ len) (hh : h < 18446744073709551616) (e1 : h / 137438953472 = m)
    (hs : w.cell? ⟨rb, 0, none⟩ = some (.slice (some ⟨g, 0, none⟩) len cap))
    (hc : w.cell? ⟨g, i, none⟩ = some (.int .u64 h)) :
    Calls Try.prog 25 #[.pointer (some ⟨rb, 0, none⟩), .int .i64 i] w fun e w' => e = .returned (.tuple #[.int .u32 ((h % 4294967296 : Nat) : Int), .int .u8 ((h / 4294967296 % 32 : Nat) : Int), .slice (some ⟨g, i + 1, none⟩) m (cap - (i + 1))]) ∧ ∃ n, w' = w.drewN n := by
  have hii : (i : Int) < (len : Int) := by omega
  have hm1 : (i : Int) + 1 + (m : Int) ≤ (len : Int) := by omega
  have hm2 : (i : Int) + 1 + (m : Int) ≤ (cap : Int) := by omega
  have hm3 : (i : Int) + 1 ≤ (i : Int) + 1 + (m : Int) := by omega
  have hl2 : (len : Int) ≤ 100000 := by omega
  have hne : ¬ cap = i + 1 := by omega
  have e1' : (h : Int) / 137438953472 = (m : Int) := by omega
  have HM : Hid _ := hd_mode h hh
  have H1 : Hid (((h : Int) % 4294967296) = ((h % 4294967296 : Nat) : Int)) := by show _ = _; omega
  clear e1 hh
  go_enter Try.func25, Try.ntmps25
  go_wp2
  go_quiet (fail)
  go_wp2
  go_ret3
  exact ⟨ret_run H1.out HM.out (by omega), _, rfl⟩

theorem u32_and63 (x : Nat) (hx : x < 4294967296) : bits .and .u32 (x : Int) 63 = ((x % 64 : Nat) : Int) := by
  have e2 : (63 : Int) = ((63 : Nat) : Int) := rfl
  rw [e2, u32_and_nat _ _ hx (by omega), nat_mask6]

/-- The bit of row off in a run's words. -/
def inBits (ws : List Nat) (off : Nat) : Bool := decide (off / 64 < ws.length) && (gw ws (off / 64)).testBit (off % 64)

set_option maxHeartbeats 400000 in
theorem inRun_any (row first off g o c : Nat) (ws : List Nat) (w : World) (hl : ws.length ≤ 100000) (hr : row < 4294967296) (hf : first < 4294967296) (ho : off = (row + 4294967296 - first) % 4294967296)
    (hws : ∀ j, j < ws.length → gw ws j < 18446744073709551616)
    (hc : ∀ j, j < ws.length → w.cell? ⟨g, o + j, none⟩ = some (.int .u64 (gw ws j : Nat))) :
    Calls Try.prog 26 #[.int .u32 row, .int .u32 first, .slice (some ⟨g, o, none⟩) ws.length c] w fun e w' => e = .returned (.bool (inBits ws off)) ∧ w' = w := by
  have hoff : off < 4294967296 := by omega
  have eo : ((row : Int) - (first : Int)) % 4294967296 = (off : Int) := by omega
  obtain ⟨q, hq⟩ : ∃ q, q = off / 64 := ⟨_, rfl⟩
  have eq1 : (off : Int) / 64 = (q : Int) := by omega
  have eb := u32_and63 off hoff
  obtain ⟨k, hk⟩ : ∃ k, k = off % 64 := ⟨_, rfl⟩
  have hk64 : k < 64 := by omega
  have hq1 : q < 67108864 := by omega
  have HQ : Hid (q = off / 64) := hq
  have HK : Hid (k = off % 64) := hk
  rw [← hk] at eb
  clear hq hk ho
  by_cases hlt : q < ws.length
  · have hcq := hc q hlt
    have hwq := hws q hlt
    have hlt' : (q : Int) < (ws.length : Int) := by omega
    have HN : Hid _ := and_bit_ne (gw ws q) k hwq hk64
    clear hc hws
    go_enter Try.func26, Try.ntmps26
    go_wp2
    go_ret
    refine ⟨ret_bool ?_, rfl⟩
    rw [HN.out]
    unfold inBits
    rw [← HQ.out, ← HK.out]
    simp [hlt]
  · have hlt' : ¬ (q : Int) < (ws.length : Int) := by omega
    clear hc hws
    go_enter Try.func26, Try.ntmps26
    go_wp2
    go_ret
    refine ⟨ret_bool ?_, rfl⟩
    unfold inBits
    rw [← HQ.out]
    simp [hlt]

theorem lw_or (row m : Nat) (hr : row < 4294967296) (hm : m < 256) : bits .or .u64 (row : Int) ((m : Int) * 4294967296) = ((lw row m : Nat) : Int) := by
  have e : ((m : Int) * 4294967296) = ((m * 4294967296 : Nat) : Int) := by omega
  rw [e, u64_or_nat _ _ (by omega) (by omega), Nat.or_comm, nat_join 32 (m * 4294967296) row (by omega) (by omega)]
  unfold lw
  omega

theorem hd_or (first m n : Nat) (hf : first < 4294967296) (hm : m < 32) (hn : n < 67108864) :
    bits .or .u64 (bits .or .u64 (first : Int) ((m : Int) * 4294967296)) ((n : Int) * 137438953472) = ((hd first m n : Nat) : Int) := by
  rw [lw_or first m hf (by omega)]
  have e : ((n : Int) * 137438953472) = ((n * 137438953472 : Nat) : Int) := by omega
  have hl : lw first m < 137438953472 := by unfold lw; omega
  rw [e, u64_or_nat _ _ (by omega) (by omega), Nat.or_comm, nat_join 37 (n * 137438953472) (lw first m) (by omega) (by omega)]
  unfold hd lw
  omega

set_option maxHeartbeats 400000 in
theorem listWord_any (row m : Nat) (hr : row < 4294967296) (hm : m < 256) (w : World) :
    Calls Try.prog 31 #[.int .u32 row, .int .u8 m] w fun e w' => e = .returned (.int .u64 (lw row m : Nat)) ∧ w' = w := by
  have HL : Hid _ := lw_or row m hr hm
  go_enter Try.func31, Try.ntmps31
  go_wp2
  go_ret
  exact ⟨ret_int HL.out, rfl⟩

set_option maxHeartbeats 400000 in
theorem runHead_any (first m n : Nat) (hf : first < 4294967296) (hm : m < 32) (hn : n < 67108864) (w : World) :
    Calls Try.prog 32 #[.int .u32 first, .int .u8 m, .int .i64 n] w fun e w' => e = .returned (.int .u64 (hd first m n : Nat)) ∧ w' = w := by
  have HL : Hid _ := hd_or first m n hf hm hn
  go_enter Try.func32, Try.ntmps32
  go_wp2
  go_ret
  exact ⟨ret_int HL.out, rfl⟩

theorem and_pred (y : Nat) (h1 : 1 ≤ y) (h : y < 18446744073709551616) : bits .and .u64 (y : Int) ((y : Int) - 1) = ((y &&& (y - 1) : Nat) : Int) := by
  have e : ((y : Int) - 1) = ((y - 1 : Nat) : Int) := by omega
  rw [e, u64_and_nat _ _ h (by omega)]

theorem and_pred_lt (y : Nat) (h1 : 1 ≤ y) : y &&& (y - 1) < y := by
  have := Nat.and_le_right (n := y) (m := y - 1)
  omega

set_option maxHeartbeats 400000 in
theorem popcount_any (x : Nat) (hx : x < 18446744073709551616) (w : World) :
    Calls Try.prog 15 #[.int .u64 x] w fun e w' => e = .returned (.int .i64 (pc x : Nat)) ∧ w' = w := by
  have HX : Hid (x < 18446744073709551616) := hx
  have HP := pc_le x
  clear hx
  go_enter Try.func15, Try.ntmps15
  go_wp2
  go_loop [0, 3] (fun a n => ∃ y c : Nat, a = .int .u64 y ∧ n = .int .i64 c ∧ Hid (y < 18446744073709551616 ∧ c + pc y = pc x)) (fun a _ => (intOf a).toNat)
  case atStart => exact ⟨x, 0, rfl, rfl, HX.out, by omega⟩
  case round =>
    obtain ⟨y, c, rfl, rfl, HY⟩ := hrel
    have hc64 : c ≤ 64 := by have := HY.out; omega
    by_cases h0 : y = 0
    · subst h0
      go_wp2
      go_ret
      refine ⟨ret_int ?_, rfl⟩
      have := HY.out
      rw [pc_zero] at this
      omega
    · have hy : ((y : Int) != 0) = true := by rw [bne_iff_ne]; omega
      have hy1 : (1 : Int) ≤ (y : Int) := by omega
      have hy2 : (y : Int) ≤ 18446744073709551615 := by have := HY.out; omega
      go_wp2
      refine ⟨⟨y &&& (y - 1), c + 1, val_int (and_pred y (by omega) HY.out.1), by go_num, ?_⟩, ?_⟩
      · have h1 := pc_and_pred y h0 HY.out.1
        have h2 := and_pred_lt y (by omega)
        have h3 := HY.out
        exact ⟨by omega, by omega⟩
      · rw [and_pred y (by omega) HY.out.1]
        simp [intOf]
        exact and_pred_lt y (by omega)

/-! ### How much room -/
theorem bitLen_ge (x : Nat) : x ≠ 0 → x < 2 ^ 64 → 1 ≤ Lib.bitLen x ∧ 2 ^ (Lib.bitLen x - 1) ≤ x := by
  induction x using Nat.strongRecOn with
  | _ x ih =>
    intro h0 h
    rw [Lib.bitLen_half x h0 h]
    refine ⟨by omega, ?_⟩
    by_cases h1 : x / 2 = 0
    · rw [h1]
      have : Lib.bitLen 0 = 0 := by decide
      rw [this]
      simp
      omega
    · obtain ⟨h2, h3⟩ := ih (x / 2) (by omega) h1 (by omega)
      rw [show 1 + Lib.bitLen (x / 2) - 1 = (Lib.bitLen (x / 2) - 1) + 1 by omega, Nat.pow_succ]
      omega

theorem bitLen_small (x : Nat) (h1 : 1 ≤ x) (h2 : x ≤ 200000) : 1 ≤ Lib.bitLen x ∧ Lib.bitLen x ≤ 18 ∧ 2 ^ (Lib.bitLen x - 1) ≤ x := by
  obtain ⟨ha, hb⟩ := bitLen_ge x (by omega) (by omega)
  refine ⟨ha, ?_, hb⟩
  rcases Nat.lt_or_ge 18 (Lib.bitLen x) with h | h
  · exfalso
    have h3 : (2 : Nat) ^ 18 ≤ 2 ^ (Lib.bitLen x - 1) := Nat.pow_le_pow_right (by omega) (by omega)
    have h4 : (2 : Nat) ^ 18 = 262144 := by decide
    omega
  · exact h

set_option maxHeartbeats 400000 in
theorem slotStep_any (x : Nat) (h1 : 1 ≤ x) (h2 : x ≤ 200000) (w : World) :
    Calls Try.prog 39 #[.int .i64 x] w fun e w' => (∃ k : Nat, k ≤ 14 ∧ e = .returned (.int .i64 (2 ^ k : Nat)) ∧ 2 ^ k ≤ x) ∧ w' = w := by
  have hx0 : (0 : Int) ≤ (x : Int) := by omega
  have hx1 : (x : Int) ≤ 200000 := by omega
  obtain ⟨b1, b2, b3⟩ := bitLen_small x h1 h2
  have HB : Hid (2 ^ (Lib.bitLen x - 1) ≤ x) := b3
  clear b3
  go_enter Try.func39, Try.ntmps39
  go_wp2_with fail
  refine (Try.bits_Len (x : Int) w (by omega) (by omega)).mono ?_
  rintro e w' ⟨rfl, hw⟩
  obtain rfl := hw.symm
  rw [Int.toNat_natCast]
  generalize Lib.bitLen x = L at *
  go_wp2
  go_ret
  have e1 : (max ((L : Int) - 4) 0).toNat = L - 4 := by omega
  have e2 : (2 : Nat) ^ (L - 4) ≤ 2 ^ 14 := Nat.pow_le_pow_right (by omega) (by omega)
  have e3 : (2 : Nat) ^ 14 = 16384 := by decide
  have e4 : (2 : Nat) ^ (L - 4) ≤ 2 ^ (L - 1) := Nat.pow_le_pow_right (by omega) (by omega)
  have e5 := HB.out
  refine ⟨⟨L - 4, by omega, ret_int ?_, by omega⟩, rfl⟩
  rw [e1]
  have e6 : ((2 : Int) ^ (L - 4)) = ((2 ^ (L - 4) : Nat) : Int) := by simp
  rw [e6]
  generalize 2 ^ (L - 4) = s at *
  unfold wrap64
  omega

theorem andNot_pow (a k : Nat) (ha : a < 9223372036854775808) (hk : k ≤ 14) : bits .andNot .i64 (a : Int) (((2 ^ k : Nat) : Int) - 1) = ((a / 2 ^ k * 2 ^ k : Nat) : Int) := by
  have h1 : 1 ≤ 2 ^ k := Nat.one_le_two_pow
  have h2 : (2 : Nat) ^ k ≤ 2 ^ 14 := Nat.pow_le_pow_right (by omega) hk
  have h3 : (2 : Nat) ^ 14 = 16384 := by decide
  have e : (((2 ^ k : Nat) : Int) - 1) = ((2 ^ k - 1 : Nat) : Int) := by omega
  rw [e]
  show IntKind.i64.wrap ((BitVec.ofInt 64 (a : Int) &&& ~~~BitVec.ofInt 64 ((2 ^ k - 1 : Nat) : Int)).toNat : Int) = _
  rw [BitVec.toNat_and, BitVec.toNat_not, ofInt_u64 a (by omega), ofInt_u64 _ (by omega)]
  rw [show 2 ^ 64 - 1 - (2 ^ k - 1) = 2 ^ 64 - 2 ^ k by omega, nat_midmask 64 k a (by omega), Nat.mod_eq_of_lt (by omega)]
  have h4 : a / 2 ^ k * 2 ^ k ≤ a := Nat.div_mul_le_self a (2 ^ k)
  exact Lib.wrap_i64_small _ (by omega)

theorem round_up (x s : Nat) (hs : 1 ≤ s) : x ≤ (x + s - 1) / s * s ∧ (x + s - 1) / s * s ≤ x + s - 1 := by
  refine ⟨?_, Nat.div_mul_le_self _ _⟩
  have h := Nat.div_add_mod (x + s - 1) s
  have h2 : (x + s - 1) % s < s := Nat.mod_lt _ (by omega)
  rw [Nat.mul_comm] at h
  generalize (x + s - 1) / s * s = y at *
  omega

set_option maxHeartbeats 400000 in
theorem slotsAtLeast_any (x : Nat) (h1 : 1 ≤ x) (h2 : x ≤ 200000) (w : World) :
    Calls Try.prog 37 #[.int .i64 x] w fun e w' => (∃ c : Nat, x ≤ c ∧ c ≤ 400000 ∧ e = .returned (.int .i64 c)) ∧ w' = w := by
  have hx0 : (0 : Int) ≤ (x : Int) := by omega
  have hx1 : (x : Int) ≤ 200000 := by omega
  go_enter Try.func37, Try.ntmps37
  go_wp2_with fail
  refine (slotStep_any x h1 h2 w).mono ?_
  rintro e w' ⟨⟨k, hk, rfl, hkx⟩, hw⟩
  obtain rfl := hw.symm
  have hs1 : 1 ≤ 2 ^ k := Nat.one_le_two_pow
  have HA : Hid _ := andNot_pow (x + 2 ^ k - 1) k (by omega) hk
  have HR : Hid _ := round_up x (2 ^ k) hs1
  generalize (2 : Nat) ^ k = s at *
  have hs2 : (1 : Int) ≤ (s : Int) := by omega
  have hs3 : (s : Int) ≤ (x : Int) := by omega
  go_wp2
  go_ret
  have hr := HR.out
  refine ⟨⟨_, hr.1, by omega, ret_int ?_⟩, rfl⟩
  have ha := HA.out
  rw [show ((x : Int) + (s : Int) - 1) = ((x + s - 1 : Nat) : Int) by omega]
  exact ha
end Go.Proofs.Qxb6605852a
