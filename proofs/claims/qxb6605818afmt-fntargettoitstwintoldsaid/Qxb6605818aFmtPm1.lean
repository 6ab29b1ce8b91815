import Derived.Test.Qxb6605818aFmtPm0
import Derived.Test.Qxb6605818aFmtMask
import Derived.Deep.RegionHeld3
namespace Go.Proofs.Qxb6605818aFmt
open Go.RowKit Go.Maps
set_option linter.unusedVariables false

/-- How many there are in the first i rows. -/
def tot (X : Nat → List Nat) : Nat → Nat
  | 0 => 0
  | i + 1 => tot X i + (X i).length
theorem tot_mono (X : Nat → List Nat) {i j : Nat} (h : i ≤ j) : tot X i ≤ tot X j := by
  induction j with
  | zero => simp at h; subst h; exact Nat.le_refl _
  | succ j ih =>
    by_cases e : i = j + 1
    · subst e; exact Nat.le_refl _
    · have := ih (by omega)
      simp only [tot]; omega
theorem tot_row (X : Nat → List Nat) {i N : Nat} (h : i < N) : tot X i + (X i).length ≤ tot X N := by
  have := tot_mono X (show i + 1 ≤ N from h)
  simpa [tot] using this

/-- The pairs seen in the first i rows and in the first t of row i. -/
def gotf (X : Nat → List Nat) (i t : Nat) (p : Nat × Nat) : Nat := if p.1 < i then (X p.1).count p.2 else if p.1 = i then ((X i).take t).count p.2 else 0
theorem gotf_zero (X : Nat → List Nat) : gotf X 0 0 = fun _ => 0 := by
  funext p
  simp [gotf]
theorem gotf_end (X : Nat → List Nat) (i : Nat) : gotf X i (X i).length = gotf X (i + 1) 0 := by
  funext p
  unfold gotf
  by_cases h : p.1 < i
  · rw [if_pos h, if_pos (by omega)]
  · rw [if_neg h]
    by_cases e : p.1 = i
    · rw [if_pos e, if_pos (by omega), List.take_length, e]
    · rw [if_neg e, if_neg (by omega)]
      split <;> simp
theorem gotf_step (X : Nat → List Nat) (i t : Nat) (h : t < (X i).length) : gotf X i (t + 1) = upd (gotf X i t) (i, (X i).getD t 0) (gotf X i t (i, (X i).getD t 0) + 1) := by
  have hg : (X i).getD t 0 = (X i)[t] := by simp [List.getD, h]
  rw [hg]
  funext p
  by_cases e : p = (i, (X i)[t])
  · subst e
    rw [upd_same]
    simp only [gotf, Nat.lt_irrefl, if_false, if_true]
    rw [List.take_succ_eq_append_getElem h, List.count_append, List.count_singleton_self]
  · rw [upd_other _ _ e]
    unfold gotf
    by_cases h1 : p.1 < i
    · rw [if_pos h1, if_pos h1]
    · rw [if_neg h1, if_neg h1]
      by_cases h2 : p.1 = i
      · rw [if_pos h2, if_pos h2, List.take_succ_eq_append_getElem h, List.count_append, List.count_singleton]
        have : ((X i)[t] == p.2) = false := by
          simp
          intro h3
          apply e
          cases p
          simp only at h2 h3
          rw [h2, h3]
        simp [this]
      · rw [if_neg h2, if_neg h2]
theorem gotf_le (X : Nat → List Nat) (i t : Nat) (p : Nat × Nat) {N : Nat} (hi : i < N) : gotf X i t p ≤ tot X N := by
  unfold gotf
  split
  · rename_i h
    have h1 := tot_row X (show p.1 < N by omega)
    have h2 := List.count_le_length (a := p.2) (l := X p.1)
    omega
  · split
    · have h1 := tot_row X hi
      have h2 := List.count_le_length (a := p.2) (l := (X i).take t)
      have h3 : ((X i).take t).length ≤ (X i).length := by rw [List.length_take]; omega
      omega
    · omega
def swp (p : Nat × Nat) : Nat × Nat := (p.2, p.1)

/-- The value of a count. -/
def cntV (c : Nat × Nat → Nat) (a : Nat × Nat) : Value := .int .i64 (c a : Nat)
theorem cntV_upd (c : Nat × Nat → Nat) (a : Nat × Nat) (x : Nat) : upd (cntV c) a (.int .i64 (x : Nat)) = cntV (upd c a x) := by
  funext y
  unfold cntV
  by_cases e : y = a
  · subst e; rw [upd_same, upd_same]
  · rw [upd_other _ _ e, upd_other _ _ e]
abbrev MapP (w : World) (b n : Nat) (c : Nat × Nat → Nat) (hs : Nat × Nat → Bool) : Prop := MapK kp domp 50 (.int .i64 0) w b n (cntV c) hs

/-- 'm[[2]int{i, j}]++', as the operations run. -/
theorem MapP.inc {w : World} {b n : Nat} {c : Nat × Nat → Nat} {hs : Nat × Nat → Bool} (h : MapP w b n c hs) (hn : n ≤ 1000000) (i j : Nat) (hi : i ≤ 1000000) (hj : j ≤ 1000000) (d : Nat) :
    ∃ (st : Nat) (w1 w2 : World), (Instr.lookup 49 (.map (some b)) (.agg #[.int .i64 (i : Nat), .int .i64 (j : Nat)]) false).run Tryf.prog w = .ok (.int .i64 (c (i, j) : Nat)) w ∧
      (Instr.mapEntry 49 (.map (some b)) (.agg #[.int .i64 (i : Nat), .int .i64 (j : Nat)])).run Tryf.prog w = .ok (.tuple #[.int .i64 (c (i, j) : Nat), .int .i64 (st : Nat)]) w1 ∧
      (Instr.lookup 49 (.map (some b)) (.agg #[.int .i64 (i : Nat), .int .i64 (j : Nat)]) false).run Tryf.prog w1 = .ok (.int .i64 (c (i, j) : Nat)) w1 ∧
      (Instr.entryStore 49 (.map (some b)) (.int .i64 (st : Nat)) (.int .i64 ((c (i, j) + d : Nat)))).run Tryf.prog w1 = .ok () w2 ∧
      (∃ hs', MapP w2 b (n + 1) (upd c (i, j) (c (i, j) + d)) hs') ∧ Foot (fun k => k = b) w w2 := by
  have hd : domp (i, j) := ⟨hi, hj⟩
  obtain ⟨st, w1, e1, ⟨hs1, e2⟩, e3, e4⟩ := h.entry law50 kp_inj u49 zero3 (by unfold maxLen; omega) (i, j) hd
  obtain ⟨w2, g1, ⟨hs2, g2⟩, g3⟩ := e4 w1 (.int .i64 ((c (i, j) + d : Nat))) rfl
  refine ⟨st, w1, w2, h.look keyed50 u49 (zero3 _) (i, j) hd, e1, e2.look keyed50 u49 (zero3 _) (i, j) hd, g1, ⟨hs2, ?_⟩, e3.trans g3 (fun _ _ e => e)⟩
  rw [cntV_upd] at g2
  exact g2
end Go.Proofs.Qxb6605818aFmt
