import Derived.Test.Qxb6605818aFmtSw1
import Derived.Test.Qxb6605818aFmtPm1
import Derived.Test.Qxb6605818aFmtPremise
namespace Go.Proofs.Qxb6605818aFmt
open Go.RowKit Go.Maps
set_option linter.unusedVariables false

theorem inStr_pick {s : Nat → ByteArray} {n : Nat} (hd : Distinct s n) {z : Nat → Int} {l : Nat} (hz : allIn n z l) {j : Nat} (hj : j < n) : inStr (pick s z) (s j) l = inInt z j l := by
  have key : inStr (pick s z) (s j) l = true ↔ inInt z j l = true := by
    rw [inStr_iff, inInt_iff]
    constructor
    · rintro ⟨i, hi, h⟩
      obtain ⟨h1, h2⟩ := hz i hi
      have := hd (z i).toNat j (by omega) hj h
      exact ⟨i, hi, by omega⟩
    · rintro ⟨i, hi, h⟩
      exact ⟨i, hi, by unfold pick; rw [h]; rfl⟩
  cases h1 : inStr (pick s z) (s j) l <;> cases h2 : inInt z j l <;> simp_all

section
variable {M : Nat → ByteArray} {lm : Nat} {s : Nat → ByteArray} {n : Nat} {b : Nat → Bool}

theorem idl_rank (hb : ∀ j, j < n → inStr M (s j) lm = b j) (k : Nat) (hk : k ≤ n) : (idl M lm s k).length = rank b k := by
  induction k with
  | zero => rfl
  | succ k ih =>
    have h := ih (by omega)
    simp only [idl, rank, List.length_append, h, hb k (by omega)]
    split <;> simp

theorem idl_at (hb : ∀ j, j < n → inStr M (s j) lm = b j) (k : Nat) (hk : k ≤ n) (j : Nat) (hj : j < k) (hbj : b j = true) : (idl M lm s k)[rank b j]? = some (s j) := by
  induction k with
  | zero => omega
  | succ k ih =>
    simp only [idl]
    by_cases e : j = k
    · subst e
      rw [if_pos (by rw [hb j (by omega)]; exact hbj)]
      rw [List.getElem?_append_right (by rw [idl_rank hb j (by omega)]; exact Nat.le_refl _), idl_rank hb j (by omega)]
      simp
    · have h := ih (by omega) (by omega)
      rw [List.getElem?_append_left (List.getElem?_eq_some_iff.1 h).1]
      exact h

theorem rank_lt (b : Nat → Bool) {j k : Nat} (hj : j < k) (hb : b j = true) : rank b j < rank b k := by
  induction k with
  | zero => omega
  | succ k ih =>
    simp only [rank]
    by_cases e : j = k
    · subst e; simp [hb]
    · have := ih (by omega)
      omega

theorem rank_inj (b : Nat → Bool) {i j : Nat} (hi : b i = true) (hj : b j = true) (h : rank b i = rank b j) : i = j := by
  rcases Nat.lt_trichotomy i j with e | e | e
  · have := rank_lt b e hi; omega
  · exact e
  · have := rank_lt b e hj; omega

theorem ixf_at (hd : Distinct s n) (hb : ∀ j, j < n → inStr M (s j) lm = b j) (k : Nat) (hk : k ≤ n) (j : Nat) (hj : j < k) (hbj : b j = true) : ixf M lm s k (s j) = rank b j := by
  induction k with
  | zero => omega
  | succ k ih =>
    simp only [ixf]
    by_cases e : j = k
    · subst e
      rw [if_pos (by rw [hb j (by omega)]; exact hbj), upd_same, idl_rank hb j (by omega)]
    · have h := ih (by omega) (by omega)
      split
      · rw [upd_other _ _ (fun h2 => e (hd _ _ (by omega) (by omega) h2))]
        exact h
      · exact h
end

/-- What 'want' holds. -/
def wnt (a c : Nat → Nat) : Nat → Nat × Nat → Nat
  | 0 => fun _ => 0
  | k + 1 => upd (wnt a c k) (a k, c k) (wnt a c k (a k, c k) + 2)

theorem wnt_bs (ix : ByteArray → Nat) (f g : Nat → ByteArray) (k i j : Nat) : wnt (fun l => ix (f l)) (fun l => ix (g l)) k (i, j) = 2 * (bs ix f g i k).count j := by
  induction k with
  | zero => simp [wnt, bs]
  | succ k ih =>
    simp only [wnt, bs, List.count_append]
    by_cases e : (i, j) = (ix (f k), ix (g k))
    · obtain ⟨rfl, rfl⟩ := Prod.mk.inj e
      rw [upd_same, ih]
      simp
      omega
    · rw [upd_other _ _ e, ih]
      split
      · rename_i h
        have : ¬ ix (g k) = j := fun h2 => e (by rw [← h, ← h2])
        rw [List.count_singleton]
        simp [this]
      · simp
theorem wnt_congr {a c a' c' : Nat → Nat} {k : Nat} (h : ∀ l, l < k → a l = a' l ∧ c l = c' l) : wnt a c k = wnt a' c' k := by
  induction k with
  | zero => rfl
  | succ k ih =>
    simp only [wnt]
    rw [ih (fun l hl => h l (by omega)), (h k (by omega)).1, (h k (by omega)).2]
theorem wnt_le (a c : Nat → Nat) (k : Nat) (p : Nat × Nat) : wnt a c k p ≤ 2 * k := by
  induction k generalizing p with
  | zero => simp [wnt]
  | succ k ih =>
    simp only [wnt]
    by_cases e : p = (a k, c k)
    · subst e
      rw [upd_same]
      have := ih (a k, c k)
      omega
    · rw [upd_other _ _ e]
      have := ih p
      omega

theorem tot_append (X Z : Nat → List Nat) (n : Nat) : tot (fun i => X i ++ Z i) n = tot X n + tot Z n := by
  induction n with
  | zero => rfl
  | succ n ih => simp only [tot, ih, List.length_append]; omega
theorem tot_congr {X Z : Nat → List Nat} {n : Nat} (h : ∀ i, i < n → (X i).length = (Z i).length) : tot X n = tot Z n := by
  induction n with
  | zero => rfl
  | succ n ih => simp only [tot, ih (fun i hi => h i (by omega)), h n (by omega)]
theorem tot_nil (n : Nat) : tot (fun _ => []) n = 0 := by
  induction n with
  | zero => rfl
  | succ n ih => simp [tot, ih]
theorem tot_one (a c n : Nat) : tot (fun i => if a = i then [c] else []) n = if a < n then 1 else 0 := by
  induction n with
  | zero => simp [tot]
  | succ n ih =>
    simp only [tot, ih]
    by_cases e : a = n
    · subst e; simp
    · rw [if_neg e]
      by_cases h : a < n
      · rw [if_pos h, if_pos (by omega)]; rfl
      · rw [if_neg h, if_neg (by omega)]; rfl
theorem tot_bs (ix : ByteArray → Nat) (f g : Nat → ByteArray) (N k : Nat) (h : ∀ l, l < k → ix (f l) < N) : tot (fun i => bs ix f g i k) N = k := by
  induction k with
  | zero => simp only [bs]; exact tot_nil N
  | succ k ih =>
    simp only [bs]
    rw [tot_append, ih (fun l hl => h l (by omega)), tot_one, if_pos (h k (by omega))]
theorem tot_count (l : List Nat) (i N : Nat) (h : ∀ x ∈ l, x < N) : tot (fun j => List.replicate (l.count j) i) N = l.length := by
  induction l with
  | nil => simp only [List.count_nil, List.replicate_zero]; rw [tot_nil]; rfl
  | cons x l ih =>
    have h1 : tot (fun j => List.replicate ((x :: l).count j) i) N = tot (fun j => List.replicate (l.count j) i ++ (if x = j then [i] else [])) N := by
      apply tot_congr
      intro j _
      rw [List.count_cons, List.length_append, List.length_replicate, List.length_replicate]
      by_cases e : x = j
      · simp [e]
      · simp [e]
    rw [h1, tot_append, ih (fun y hy => h y (List.mem_cons_of_mem _ hy)), tot_one, if_pos (h x (List.mem_cons_self ..))]
    rfl
theorem tot_yf (X : Nat → List Nat) (N k : Nat) (h : ∀ i, i < k → ∀ x ∈ X i, x < N) : tot (fun j => yf X j k) N = tot X k := by
  induction k with
  | zero => simp only [yf]; exact tot_nil N
  | succ k ih =>
    simp only [yf]
    rw [tot_append, ih (fun i hi => h i (by omega)), tot_count _ _ _ (h k (by omega))]
    rfl
theorem yf_count (X : Nat → List Nat) (j k i : Nat) : (yf X j k).count i = if i < k then (X i).count j else 0 := by
  induction k with
  | zero => simp [yf]
  | succ k ih =>
    simp only [yf, List.count_append, ih, List.count_replicate]
    by_cases e : k = i
    · subst e; simp
    · have e2 : (k == i) = false := by simp [e]
      rw [e2]
      by_cases h : i < k
      · have h2 : i < k + 1 := by omega
        simp [h, h2]
      · have h2 : ¬ i < k + 1 := by omega
        simp [h, h2]
theorem yf_mem (X : Nat → List Nat) (j k i : Nat) (h : i ∈ yf X j k) : i < k := by
  induction k with
  | zero => simp [yf] at h
  | succ k ih =>
    simp only [yf] at h
    rcases List.mem_append.1 h with h | h
    · have := ih h; omega
    · have := (List.mem_replicate.1 h).2; omega
end Go.Proofs.Qxb6605818aFmt
