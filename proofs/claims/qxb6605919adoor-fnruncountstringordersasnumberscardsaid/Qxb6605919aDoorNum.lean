import Derived.Lib.ItoaMem
namespace Go.Proofs.Qxb6605919aDoor.Num
open Go.Lib

def stepD (a : Nat) (c : UInt8) : Nat := 10 * a + (c.toNat - 48)

/-- The value of a list of digits, read from an accumulator. -/
def valA (a : Nat) (l : List UInt8) : Nat := l.foldl stepD a

def IsDig (c : UInt8) : Prop := 48 ≤ c.toNat ∧ c.toNat ≤ 57

theorem arith (a k P v : Nat) : (10 * a + k) * P + v = a * (P * 10) + (k * P + v) := by
  rw [Nat.add_mul, Nat.mul_comm 10 a, Nat.mul_assoc, Nat.mul_comm 10 P, Nat.add_assoc]
theorem valA_cons (a : Nat) (c : UInt8) (l : List UInt8) : valA a (c :: l) = valA (stepD a c) l := by
  unfold valA; rw [List.foldl_cons]
theorem valA_snoc (l : List UInt8) (c : UInt8) (a : Nat) : valA a (l ++ [c]) = 10 * valA a l + (c.toNat - 48) := by
  unfold valA; rw [List.foldl_append, List.foldl_cons, List.foldl_nil]; rfl
theorem valA_split (l : List UInt8) : ∀ a, valA a l = a * 10 ^ l.length + valA 0 l := by
  induction l with
  | nil => intro a; simp [valA]
  | cons d l ih =>
    intro a
    rw [valA_cons a, valA_cons 0, ih (stepD a d), ih (stepD 0 d), List.length_cons, Nat.pow_succ]
    unfold stepD
    rw [Nat.mul_zero, Nat.zero_add]
    exact arith _ _ _ _

theorem val_cons (d : UInt8) (l : List UInt8) : valA 0 (d :: l) = (d.toNat - 48) * 10 ^ l.length + valA 0 l := by
  rw [valA_cons, valA_split]
  unfold stepD
  rw [Nat.mul_zero, Nat.zero_add]

theorem val_nil (a : Nat) : valA a [] = a := rfl

theorem val_lt (l : List UInt8) (h : ∀ c ∈ l, IsDig c) : valA 0 l < 10 ^ l.length := by
  induction l with
  | nil => simp [valA]
  | cons d l ih =>
    rw [val_cons, List.length_cons, Nat.pow_succ]
    have h1 := ih (fun c hc => h c (List.mem_cons_of_mem _ hc))
    have h2 := h d List.mem_cons_self
    unfold IsDig at h2
    have h3 : d.toNat - 48 ≤ 9 := by omega
    have h4 : (d.toNat - 48) * 10 ^ l.length ≤ 9 * 10 ^ l.length := Nat.mul_le_mul_right _ h3
    generalize 10 ^ l.length = P at *
    generalize (d.toNat - 48) * P = y at *
    omega

theorem dig_ofNat (k : Nat) (h : k < 10) : (UInt8.ofNat (48 + k)).toNat = 48 + k := by
  simp [UInt8.toNat_ofNat']; omega

theorem dec_val (u : Nat) : valA 0 (decDigits u) = u := by
  induction u using Nat.strongRecOn with
  | _ u ih =>
    rw [decDigits]
    split
    · rename_i h
      rw [val_cons, val_nil, dig_ofNat u h]
      simp
    · rw [valA_snoc, ih _ (by omega), dig_ofNat _ (by omega)]
      omega

theorem dec_dig (u : Nat) : ∀ c ∈ decDigits u, IsDig c := by
  induction u using Nat.strongRecOn with
  | _ u ih =>
    rw [decDigits]
    intro c hc
    unfold IsDig
    split at hc
    · rename_i h
      simp only [List.mem_singleton] at hc
      subst hc
      rw [dig_ofNat u h]
      omega
    · rw [List.mem_append] at hc
      rcases hc with hc | hc
      · exact ih _ (by omega) c hc
      · simp only [List.mem_singleton] at hc
        subst hc
        rw [dig_ofNat _ (by omega)]
        omega

theorem dec_ne (u : Nat) : decDigits u ≠ [] := by
  intro h
  have := decDigits_length u
  have h2 := nDigits_pos u
  rw [h] at this
  simp at this
  omega

/-- No leading zero. -/
theorem dec_head (u : Nat) (h : 1 ≤ u) : ∀ c l, decDigits u = c :: l → c.toNat ≠ 48 := by
  induction u using Nat.strongRecOn with
  | _ u ih =>
    intro c l hcl
    rw [decDigits] at hcl
    split at hcl
    · rename_i h'
      simp only [List.cons.injEq] at hcl
      rw [← hcl.1, dig_ofNat u h']
      omega
    · cases hd : decDigits (u / 10) with
      | nil => exact absurd hd (dec_ne _)
      | cons d m =>
        rw [hd] at hcl
        simp only [List.cons_append, List.cons.injEq] at hcl
        rw [← hcl.1]
        exact ih _ (by omega) (by omega) d m hd

theorem nDigits_le (k : Nat) : ∀ u, 1 ≤ k → u < 10 ^ k → nDigits u ≤ k := by
  induction k with
  | zero => intro u h; omega
  | succ k ih =>
    intro u _ hu
    by_cases h : u < 10
    · rw [nDigits_small h]; omega
    · rw [nDigits_big h]
      rw [Nat.pow_succ] at hu
      by_cases hk : k = 0
      · subst hk; simp at hu; omega
      · have := ih (u / 10) (by omega) (by omega)
        omega

theorem dec_len (u : Nat) (h : u < 10000000000000000000) : 1 ≤ (decDigits u).length ∧ (decDigits u).length ≤ 19 := by
  rw [decDigits_length]
  exact ⟨nDigits_pos u, nDigits_le 19 u (by omega) (by simpa using h)⟩

/-- 10 ^ (len - 1) is at most the number, where it is not 0. -/
theorem dec_ge (u : Nat) : (decDigits u).length = 1 ∨ 10 ^ ((decDigits u).length - 1) ≤ u := by
  rw [decDigits_length]
  induction u using Nat.strongRecOn with
  | _ u ih =>
    by_cases h : u < 10
    · left; exact nDigits_small h
    · right
      rw [nDigits_big h]
      have hp := nDigits_pos (u / 10)
      rcases ih (u / 10) (by omega) with h1 | h1
      · rw [h1]; simp; omega
      · rw [show nDigits (u / 10) + 1 - 1 = (nDigits (u / 10) - 1) + 1 by omega, Nat.pow_succ]
        omega

def lexLess : List UInt8 → List UInt8 → Bool
  | c :: x, d :: y => if c = d then lexLess x y else decide (c.toNat < d.toNat)
  | _, _ => false

def slex (x y : List UInt8) : Bool := if x.length = y.length then lexLess x y else decide (x.length < y.length)

theorem lex_iff : ∀ (x y : List UInt8), x.length = y.length → (∀ c ∈ x, IsDig c) → (∀ c ∈ y, IsDig c) → (lexLess x y = true ↔ valA 0 x < valA 0 y)
  | [], [], _, _, _ => by simp [lexLess]
  | [], _ :: _, h, _, _ => by simp at h
  | _ :: _, [], h, _, _ => by simp at h
  | c :: x, d :: y, h, hx, hy => by
    have hl : x.length = y.length := by simpa using h
    have hx' : ∀ c ∈ x, IsDig c := fun a ha => hx a (List.mem_cons_of_mem _ ha)
    have hy' : ∀ c ∈ y, IsDig c := fun a ha => hy a (List.mem_cons_of_mem _ ha)
    have hc := hx c List.mem_cons_self
    have hd := hy d List.mem_cons_self
    have bx := val_lt x hx'
    have by' := val_lt y hy'
    have ih := lex_iff x y hl hx' hy'
    unfold IsDig at hc hd
    rw [val_cons, val_cons, hl]
    rw [hl] at bx
    have e : lexLess (c :: x) (d :: y) = if c = d then lexLess x y else decide (c.toNat < d.toNat) := rfl
    rw [e]
    generalize 10 ^ y.length = P at *
    by_cases he : c = d
    · subst he
      rw [if_pos rfl, ih]
      omega
    · rw [if_neg he, decide_eq_true_iff]
      have hne : c.toNat ≠ d.toNat := fun e => he (UInt8.toNat_inj.1 e)
      constructor
      · intro hlt
        have : (c.toNat - 48 + 1) * P ≤ (d.toNat - 48) * P := Nat.mul_le_mul_right _ (by omega)
        rw [Nat.add_mul, Nat.one_mul] at this
        generalize (c.toNat - 48) * P = u at *
        generalize (d.toNat - 48) * P = v at *
        omega
      · intro hlt
        rcases Nat.lt_or_ge c.toNat d.toNat with h1 | h1
        · exact h1
        · exfalso
          have : (d.toNat - 48 + 1) * P ≤ (c.toNat - 48) * P := Nat.mul_le_mul_right _ (by omega)
          rw [Nat.add_mul, Nat.one_mul] at this
          generalize (c.toNat - 48) * P = u at *
          generalize (d.toNat - 48) * P = v at *
          omega

/-- SHORTER FIRST, THEN BYTE BY BYTE, IS THE ORDER OF THE NUMBERS. -/
theorem slex_dec (a b : Nat) : slex (decDigits a) (decDigits b) = decide (a < b) := by
  unfold slex
  have ha := dec_val a
  have hb := dec_val b
  have ba := val_lt _ (dec_dig a)
  have bb := val_lt _ (dec_dig b)
  have ga := dec_ge a
  have gb := dec_ge b
  rw [ha] at ba
  rw [hb] at bb
  split
  · rename_i h
    have := lex_iff _ _ h (dec_dig a) (dec_dig b)
    rw [ha, hb] at this
    rw [Bool.eq_iff_iff, this, decide_eq_true_iff]
  · rename_i h
    have na := nDigits_pos a
    have nb := nDigits_pos b
    rw [← decDigits_length] at na nb
    rw [decide_eq_decide]
    constructor
    · intro hl
      rcases gb with gb | gb
      · omega
      · have : 10 ^ (decDigits a).length ≤ 10 ^ ((decDigits b).length - 1) := Nat.pow_le_pow_right (by omega) (by omega)
        omega
    · intro hl
      rcases Nat.lt_or_ge (decDigits a).length (decDigits b).length with h1 | h1
      · exact h1
      · exfalso
        rcases ga with ga | ga
        · omega
        · have : 10 ^ (decDigits b).length ≤ 10 ^ ((decDigits a).length - 1) := Nat.pow_le_pow_right (by omega) (by omega)
          omega
end Go.Proofs.Qxb6605919aDoor.Num
