import Derived.WalkKit
import Derived.Laws.BitsAllLaws
namespace Go.Proofs.Qxb6605852a

/-! ### Words as numbers -/
def gw (ws : List Nat) (i : Nat) : Nat := ws.getD i 0

theorem gw_of_lt {ws : List Nat} {i : Nat} (h : i < ws.length) : gw ws i = ws[i] := by simp [gw, h]
theorem gw_append_left {a b : List Nat} {i : Nat} (h : i < a.length) : gw (a ++ b) i = gw a i := by
  simp [gw, List.getElem?_append, h]
theorem gw_append_right {a b : List Nat} {i : Nat} (h : a.length ≤ i) : gw (a ++ b) i = gw b (i - a.length) := by
  simp [gw, List.getElem?_append, Nat.not_lt.2 h]
theorem gw_take {ws : List Nat} {i n : Nat} (h : i < n) : gw (ws.take n) i = gw ws i := by
  simp [gw, h]
theorem gw_drop (ws : List Nat) (i n : Nat) : gw (ws.drop n) i = gw ws (n + i) := by
  simp [gw, List.getElem?_drop]
theorem gw_set_same {ws : List Nat} {i x : Nat} (h : i < ws.length) : gw (ws.set i x) i = x := by
  simp [gw, h]
theorem gw_set_other {ws : List Nat} {i j x : Nat} (h : i ≠ j) : gw (ws.set i x) j = gw ws j := by
  simp [gw, h]
theorem gw_replicate (n i : Nat) : gw (List.replicate n 0) i = 0 := by
  simp only [gw, List.getD_eq_getElem?_getD, List.getElem?_replicate]
  split <;> rfl
theorem gw_mem {ws : List Nat} {x : Nat} (h : x ∈ ws) : ∃ i, i < ws.length ∧ gw ws i = x := by
  obtain ⟨i, hi, rfl⟩ := List.getElem_of_mem h
  exact ⟨i, hi, gw_of_lt hi⟩
theorem gw_in {ws : List Nat} {i : Nat} (h : i < ws.length) : gw ws i ∈ ws := by rw [gw_of_lt h]; exact List.getElem_mem h

/-! ### The walk's bit words -/
theorem wrap_pow (k : Nat) (hk : k < 64) : IntKind.u64.wrap ((2 : Int) ^ k) = ((2 ^ k : Nat) : Int) := by
  have h : (2 : Nat) ^ k < 18446744073709551616 := by
    have h2 : (2 : Nat) ^ k < 2 ^ 64 := Nat.pow_lt_pow_right (by omega) hk
    have h3 : (2 : Nat) ^ 64 = 18446744073709551616 := by decide
    omega
  rw [IntKind.wrap_u64]
  have e : ((2 : Int) ^ k) = ((2 ^ k : Nat) : Int) := by simp
  rw [e]
  generalize 2 ^ k = x at *
  omega

theorem pow_lt64 (k : Nat) (hk : k < 64) : (2 : Nat) ^ k < 18446744073709551616 := by
  have h2 : (2 : Nat) ^ k < 2 ^ 64 := Nat.pow_lt_pow_right (by omega) hk
  have h3 : (2 : Nat) ^ 64 = 18446744073709551616 := by decide
  omega

theorem and_pow (x k : Nat) : x &&& 2 ^ k = if x.testBit k then 2 ^ k else 0 := by
  apply Nat.eq_of_testBit_eq
  intro i
  rw [Nat.testBit_and]
  by_cases hik : k = i
  · subst hik
    rw [Nat.testBit_two_pow_self]
    cases x.testBit k <;> simp
  · rw [Nat.testBit_two_pow_of_ne hik]
    split
    · rw [Nat.testBit_two_pow_of_ne hik]; simp
    · simp

theorem and_bit_ne (x k : Nat) (hx : x < 18446744073709551616) (hk : k < 64) : (bits .and .u64 (x : Int) (IntKind.u64.wrap (2 ^ k)) != 0) = x.testBit k := by
  rw [wrap_pow k hk, u64_and_nat _ _ hx (pow_lt64 k hk), and_pow]
  have hp : 0 < 2 ^ k := Nat.two_pow_pos k
  cases x.testBit k
  · simp
  · simp only [if_true]
    rw [bne_iff_ne]
    generalize 2 ^ k = y at *
    omega

theorem testBit_add_pow (y k i : Nat) (h : y.testBit k = false) : (y + 2 ^ k).testBit i = (decide (i = k) || y.testBit i) := by
  have e : y = 2 ^ (k + 1) * (y / 2 ^ (k + 1)) + y % 2 ^ (k + 1) := (Nat.div_add_mod _ _).symm
  have hm : y % 2 ^ (k + 1) < 2 ^ k := by
    have hk : (y % 2 ^ (k + 1)).testBit k = false := by rw [Nat.testBit_mod_two_pow, h]; simp
    have hlt : y % 2 ^ (k + 1) < 2 ^ (k + 1) := Nat.mod_lt _ (Nat.two_pow_pos _)
    rcases Nat.lt_or_ge (y % 2 ^ (k + 1)) (2 ^ k) with h1 | h1
    · exact h1
    · exfalso
      have h2 : (2 ^ k + (y % 2 ^ (k + 1) - 2 ^ k)).testBit k = !(y % 2 ^ (k + 1) - 2 ^ k).testBit k := Nat.testBit_two_pow_add_eq _ _
      rw [Nat.pow_succ] at hlt
      have h3 : (y % 2 ^ (k + 1) - 2 ^ k).testBit k = false := Nat.testBit_lt_two_pow (by omega)
      rw [h3, Nat.add_sub_cancel' h1, hk] at h2
      simp at h2
  generalize y / 2 ^ (k + 1) = a at *
  generalize y % 2 ^ (k + 1) = b at *
  subst e
  have hb1 : b < 2 ^ (k + 1) := by rw [Nat.pow_succ]; omega
  have hb2 : 2 ^ k + b < 2 ^ (k + 1) := by rw [Nat.pow_succ]; omega
  rw [show 2 ^ (k + 1) * a + b + 2 ^ k = 2 ^ (k + 1) * a + (2 ^ k + b) by omega]
  rw [Nat.testBit_two_pow_mul_add a hb2 i, Nat.testBit_two_pow_mul_add a hb1 i]
  by_cases hi : i < k + 1
  · rw [if_pos hi, if_pos hi]
    by_cases hik : i = k
    · subst hik
      rw [Nat.testBit_two_pow_add_eq, Nat.testBit_lt_two_pow hm]
      simp
    · rw [Nat.testBit_two_pow_add_gt (by omega)]
      simp [hik]
  · rw [if_neg hi, if_neg hi]
    have : i ≠ k := by omega
    simp [this]

theorem or_pow (y k : Nat) (h : y.testBit k = false) : y ||| 2 ^ k = y + 2 ^ k := by
  apply Nat.eq_of_testBit_eq
  intro i
  rw [testBit_add_pow y k i h, Nat.testBit_or]
  by_cases hik : i = k
  · subst hik
    rw [Nat.testBit_two_pow_self]; simp
  · rw [Nat.testBit_two_pow_of_ne (by omega)]; simp [hik]

theorem or_bit (x k : Nat) (hx : x < 18446744073709551616) (hk : k < 64) (h : x.testBit k = false) : bits .or .u64 (x : Int) (IntKind.u64.wrap (2 ^ k)) = ((x + 2 ^ k : Nat) : Int) := by
  rw [wrap_pow k hk, u64_or_nat _ _ hx (pow_lt64 k hk), or_pow x k h]

/-- Taking a set bit out. -/
theorem sub_pow (x k : Nat) (hb : x.testBit k = true) : 2 ^ k ≤ x ∧ (x - 2 ^ k).testBit k = false := by
  have hle : 2 ^ k ≤ x := Nat.ge_two_pow_of_testBit hb
  refine ⟨hle, ?_⟩
  have h1 := Nat.testBit_two_pow_add_eq (x - 2 ^ k) k
  rw [Nat.add_sub_cancel' hle, hb] at h1
  cases h : (x - 2 ^ k).testBit k
  · rfl
  · rw [h] at h1; simp at h1

theorem testBit_sub_pow (x k i : Nat) (hb : x.testBit k = true) : (x - 2 ^ k).testBit i = (!decide (i = k) && x.testBit i) := by
  obtain ⟨hle, hc⟩ := sub_pow x k hb
  have h := testBit_add_pow (x - 2 ^ k) k i hc
  rw [Nat.sub_add_cancel hle] at h
  by_cases hik : i = k
  · subst hik; rw [hc]; simp
  · rw [h]; simp [hik]

theorem and_not_nat (x k : Nat) (hx : x < 18446744073709551616) (hk : k < 64) (hb : x.testBit k = true) : x &&& (18446744073709551615 - 2 ^ k) = x - 2 ^ k := by
  have h3 : (18446744073709551615 : Nat) = 2 ^ 64 - 1 := by decide
  apply Nat.eq_of_testBit_eq
  intro i
  rw [testBit_sub_pow x k i hb, Nat.testBit_and, h3, Nat.sub_sub, Nat.add_comm 1, Nat.testBit_two_pow_sub_succ (Nat.pow_lt_pow_right (by omega) hk)]
  by_cases hik : i = k
  · subst hik
    rw [Nat.testBit_two_pow_self]
    simp
  · rw [Nat.testBit_two_pow_of_ne (by omega)]
    by_cases hi : i < 64
    · simp [hi, hik]
    · have : x.testBit i = false := Nat.testBit_lt_two_pow (Nat.lt_of_lt_of_le (show x < 2 ^ 64 by omega) (Nat.pow_le_pow_right (by omega) (by omega)))
      simp [this]

theorem andNot_bit (x k : Nat) (hx : x < 18446744073709551616) (hk : k < 64) (hb : x.testBit k = true) : bits .andNot .u64 (x : Int) (IntKind.u64.wrap (2 ^ k)) = ((x - 2 ^ k : Nat) : Int) := by
  rw [wrap_pow k hk, u64_andNot_nat _ _ hx (pow_lt64 k hk), and_not_nat x k hx hk hb]

/-! ### How many bits -/
/-- popcount, by halves. -/
def cnt : Nat → Nat → Nat
  | 0, _ => 0
  | n + 1, x => x % 2 + cnt n (x / 2)

def pc (x : Nat) : Nat := cnt 64 x

theorem cnt_zero (n : Nat) : cnt n 0 = 0 := by
  induction n with
  | zero => rfl
  | succ n ih => simp [cnt, ih]

theorem cnt_add (n : Nat) : ∀ x k, k < n → x.testBit k = false → cnt n (x + 2 ^ k) = cnt n x + 1 := by
  induction n with
  | zero => intro x k h; omega
  | succ n ih =>
    intro x k hk hb
    cases k with
    | zero =>
      rw [Nat.testBit_zero] at hb
      have hx : x % 2 = 0 := by simp at hb; omega
      simp only [cnt, Nat.pow_zero]
      rw [show (x + 1) / 2 = x / 2 by omega]
      omega
    | succ k =>
      rw [Nat.testBit_succ] at hb
      simp only [cnt, Nat.pow_succ]
      rw [show (x + 2 ^ k * 2) / 2 = x / 2 + 2 ^ k by omega, ih (x / 2) k (by omega) hb]
      omega

theorem pc_add (x k : Nat) (hk : k < 64) (hb : x.testBit k = false) : pc (x + 2 ^ k) = pc x + 1 := cnt_add 64 x k hk hb
theorem pc_sub (x k : Nat) (hk : k < 64) (hb : x.testBit k = true) : pc (x - 2 ^ k) + 1 = pc x := by
  obtain ⟨hle, hc⟩ := sub_pow x k hb
  have := pc_add (x - 2 ^ k) k hk hc
  rw [Nat.sub_add_cancel hle] at this
  omega
theorem pc_pow (k : Nat) (hk : k < 64) : pc (2 ^ k) = 1 := by
  have := pc_add 0 k hk (by simp)
  rw [Nat.zero_add] at this
  rw [this]
  simp [pc, cnt_zero]
theorem pc_zero : pc 0 = 0 := cnt_zero 64

/-- 'x &= x - 1' takes one bit out. -/
theorem cnt_and_pred (n : Nat) : ∀ x, x ≠ 0 → x < 2 ^ n → cnt n (x &&& (x - 1)) + 1 = cnt n x := by
  induction n with
  | zero => intro x h h2; simp at h2; omega
  | succ n ih =>
    intro x hx hlt
    rw [Nat.pow_succ] at hlt
    simp only [cnt]
    have hd : (x &&& (x - 1)) / 2 = (x / 2) &&& ((x - 1) / 2) := by
      have := Nat.and_div_two (a := x) (b := x - 1)
      exact this
    have hm : (x &&& (x - 1)) % 2 = 0 := by
      have h1 : (x &&& (x - 1)) % 2 = (x % 2) &&& ((x - 1) % 2) := Nat.and_mod_two_pow (n := 1)
      rw [h1]
      rcases Nat.mod_two_eq_zero_or_one x with h | h
      · rw [h]; simp
      · rw [show (x - 1) % 2 = 0 by omega]; simp
    rw [hd, hm]
    rcases Nat.mod_two_eq_zero_or_one x with h | h
    · have h2 : (x - 1) / 2 = x / 2 - 1 := by omega
      rw [h2, h]
      have := ih (x / 2) (by omega) (by omega)
      omega
    · have h2 : (x - 1) / 2 = x / 2 := by omega
      rw [h2, Nat.and_self]
      omega

theorem pc_and_pred (x : Nat) (hx : x ≠ 0) (h : x < 18446744073709551616) : pc (x &&& (x - 1)) + 1 = pc x :=
  cnt_and_pred 64 x hx (by simpa using h)

theorem cnt_le (n : Nat) : ∀ x, cnt n x ≤ n := by
  induction n with
  | zero => intro x; simp [cnt]
  | succ n ih => intro x; simp only [cnt]; have := ih (x / 2); omega
theorem pc_le (x : Nat) : pc x ≤ 64 := cnt_le 64 x
end Go.Proofs.Qxb6605852a
