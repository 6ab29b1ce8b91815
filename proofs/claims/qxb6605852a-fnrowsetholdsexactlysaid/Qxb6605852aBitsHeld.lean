import Derived.Test.Qxb6605852aHeld
namespace Go.Proofs.Qxb6605852a
set_option linter.unusedVariables false

theorem offs_lt (r f : Nat) : offs r f < 4294967296 := by unfold offs; omega
theorem offs_inj {r r' f : Nat} (h : r < 4294967296) (h' : r' < 4294967296) (hf : f < 4294967296) (e : offs r f = offs r' f) : r = r' := by
  unfold offs at e; omega
theorem offs_self (r : Nat) (h : r < 4294967296) : offs r r = 0 := by unfold offs; omega

theorem inBits_add {ws : List Nat} {q k x : Nat} (hq : q < ws.length) (hx : gw ws q = x) (hk : k < 64) (hb : x.testBit k = false) (o : Nat) :
    inBits (ws.set q (x + 2 ^ k)) o = true ↔ inBits ws o = true ∨ o = 64 * q + k := by
  unfold inBits
  simp only [List.length_set, Bool.and_eq_true, decide_eq_true_eq]
  by_cases h : o / 64 = q
  · rw [h, gw_set_same hq, testBit_add_pow x k _ hb, hx]
    simp only [Bool.or_eq_true, decide_eq_true_eq]
    constructor
    · rintro ⟨h1, h2 | h2⟩
      · right; omega
      · left; exact ⟨h1, h2⟩
    · rintro (⟨h1, h2⟩ | h1)
      · exact ⟨h1, .inr h2⟩
      · exact ⟨hq, .inl (by omega)⟩
  · rw [gw_set_other (fun e => h e.symm)]
    constructor
    · exact .inl
    · rintro (h1 | h1)
      · exact h1
      · omega

theorem inBits_sub {ws : List Nat} {q k x : Nat} (hq : q < ws.length) (hx : gw ws q = x) (hk : k < 64) (hb : x.testBit k = true) (o : Nat) :
    inBits (ws.set q (x - 2 ^ k)) o = true ↔ inBits ws o = true ∧ o ≠ 64 * q + k := by
  unfold inBits
  simp only [List.length_set, Bool.and_eq_true, decide_eq_true_eq]
  by_cases h : o / 64 = q
  · rw [h, gw_set_same hq, testBit_sub_pow x k _ hb, hx]
    simp only [Bool.and_eq_true, Bool.not_eq_true', decide_eq_false_iff_not]
    constructor
    · rintro ⟨h1, h2, h3⟩
      exact ⟨⟨h1, h3⟩, by omega⟩
    · rintro ⟨⟨h1, h2⟩, h3⟩
      exact ⟨h1, by omega, h2⟩
  · rw [gw_set_other (fun e => h e.symm)]
    constructor
    · intro h1
      exact ⟨h1, by omega⟩
    · exact fun h1 => h1.1

theorem inBits_after (ws : List Nat) (k o : Nat) : inBits (ws ++ List.replicate k 0) o = inBits ws o := by
  unfold inBits
  by_cases h : o / 64 < ws.length
  · rw [gw_append_left h]
    simp [h]
    omega
  · rw [gw_append_right (by omega), gw_replicate]
    simp [h]

theorem inBits_before (ws : List Nat) (k o : Nat) : inBits (List.replicate k 0 ++ ws) o = true ↔ 64 * k ≤ o ∧ inBits ws (o - 64 * k) = true := by
  unfold inBits
  by_cases h : o / 64 < k
  · rw [gw_append_left (by simpa using h), gw_replicate]
    simp
    omega
  · rw [gw_append_right (by simp; omega)]
    have h1 : (o - 64 * k) / 64 = o / 64 - k := by omega
    have h2 : (o - 64 * k) % 64 = o % 64 := by omega
    rw [h1, h2]
    simp only [List.length_append, List.length_replicate, Bool.and_eq_true, decide_eq_true_eq]
    constructor
    · rintro ⟨a, b⟩
      exact ⟨by omega, by omega, b⟩
    · rintro ⟨_, a, b⟩
      exact ⟨by omega, b⟩

theorem inBits_one (o : Nat) : inBits [1] o = true ↔ o = 0 := by
  unfold inBits
  simp only [List.length_singleton, Bool.and_eq_true, decide_eq_true_eq]
  constructor
  · rintro ⟨h1, h2⟩
    have h3 : o / 64 = 0 := by omega
    rw [h3, gw_cons_zero] at h2
    rw [show (1 : Nat) = 2 ^ 0 from rfl, Nat.testBit_two_pow] at h2
    simp at h2
    omega
  · rintro rfl
    exact ⟨by decide, by decide⟩

/-- How many bits in the words. -/
def pcs (ws : List Nat) : Nat := (ws.map pc).sum

theorem pcs_set (ws : List Nat) (q y : Nat) (hq : q < ws.length) : pcs (ws.set q y) + pc (gw ws q) = pcs ws + pc y := by
  induction ws generalizing q with
  | nil => simp at hq
  | cons z ws ih =>
    cases q with
    | zero => simp [pcs, gw_cons_zero]; omega
    | succ q =>
      have := ih q (by simpa using hq)
      simp only [pcs, List.set_cons_succ, List.map_cons, List.sum_cons, gw_cons_succ] at *
      omega

theorem pcs_append (a b : List Nat) : pcs (a ++ b) = pcs a + pcs b := by simp [pcs]
theorem pcs_zeros (k : Nat) : pcs (List.replicate k 0) = 0 := by
  induction k with
  | zero => rfl
  | succ k ih => simp [pcs, List.replicate_succ, pc_zero] at *
end Go.Proofs.Qxb6605852a
