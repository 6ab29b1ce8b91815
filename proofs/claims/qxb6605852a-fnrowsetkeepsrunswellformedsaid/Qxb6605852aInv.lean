import Derived.Test.Qxb6605852aAddAny
namespace Go.Proofs.Qxb6605852a
set_option linter.unusedVariables false

/-- What the rowLocks holds is what the model says. -/
structure Inv (ss : List Seg) (f : Nat → Nat) (cur : Nat → Nat) : Prop where
  shape : Shape ss
  runs : ∀ r md, r < 4294967296 → inRuns ss r md → cur r = md ∧ f r = 0 ∧ ∀ md', ¬ inList ss r md'
  lst : ∀ r md, r < 4294967296 → inList ss r md → cur r = md ∧ md ≠ 0 ∧ f r = 0
  spl : ∀ r, f r ≠ 0 → f r = 2 ^ (cur r) ∧ cur r ≠ 0
  all : ∀ r, r < 4294967296 → cur r ≠ 0 → inRuns ss r (cur r) ∨ inList ss r (cur r) ∨ f r ≠ 0
  far : ∀ r, 4294967296 ≤ r → f r = 0
  okc : ∀ r, okMode (cur r)

def one (b : Nat) : Nat := if b = 0 then 0 else 1

theorem upd_same {α : Type} (f : Nat → α) (r : Nat) (x : α) : upd f r x r = x := by simp [upd]
theorem upd_other {α : Type} (f : Nat → α) {r i : Nat} (x : α) (h : i ≠ r) : upd f r x i = f i := by simp [upd, h]
theorem okMode_zero : okMode 0 := .inl (by omega)

theorem inv_drop {ss ss' : List Seg} {f f' cur : Nat → Nat} {sz sz' row m : Nat} (hi : Inv ss f cur) (hr : row < 4294967296) (hm : cur row = m) (h0 : m ≠ 0) (hsz : f row ≠ 0 → 1 ≤ sz) (hd : Dropped ss f sz row m ss' f' sz') :
    Inv ss' f' (upd cur row 0) ∧ total ss' + sz' + 1 = total ss + sz ∧ f' row = 0 ∧ (∀ r, r ≠ row → f' r = f r) ∧ sz' + one (f row) = sz := by
  have okc : ∀ r, okMode (upd cur row 0 r) := fun r => by
    by_cases h : r = row
    · subst h; rw [upd_same]; exact okMode_zero
    · rw [upd_other _ _ h]; exact hi.okc r
  rcases hd with ⟨hR, ⟨hs, a1, a2, a3⟩, rfl, rfl⟩ | ⟨hR, hL, ⟨hs, a1, a2, a3⟩, rfl, rfl⟩ | ⟨hR, hL, rfl, hfr, rfl, rfl⟩
  · obtain ⟨b1, b2, b3⟩ := hi.runs row m hr hR
    refine ⟨⟨hs, fun r md hr' h => ?_, fun r md hr' h => ?_, fun r h => ?_, fun r hr' h => ?_, hi.far, okc⟩, by omega, b2, fun _ _ => rfl, by simp [one, b2]⟩
    · obtain ⟨h1, h2⟩ := (a1 r md hr').1 h
      obtain ⟨c1, c2, c3⟩ := hi.runs r md hr' h1
      have hne : r ≠ row := fun e => h2 ⟨e, by subst e; omega⟩
      rw [upd_other _ _ hne]
      exact ⟨c1, c2, fun md' h => c3 md' ((a2 r md').1 h)⟩
    · have h1 := (a2 r md).1 h
      have hne : r ≠ row := fun e => by subst e; exact b3 md h1
      rw [upd_other _ _ hne]
      exact hi.lst r md hr' h1
    · have hne : r ≠ row := fun e => by subst e; exact h b2
      rw [upd_other _ _ hne]
      exact hi.spl r h
    · have hne : r ≠ row := fun e => by subst e; rw [upd_same] at h; exact h rfl
      rw [upd_other _ _ hne] at h ⊢
      rcases hi.all r hr' h with c | c | c
      · exact .inl ((a1 r _ hr').2 ⟨c, fun e => hne e.1⟩)
      · exact .inr (.inl ((a2 r _).2 c))
      · exact .inr (.inr c)
  · obtain ⟨b1, b2, b3⟩ := hi.lst row m hr hL
    refine ⟨⟨hs, fun r md hr' h => ?_, fun r md hr' h => ?_, fun r h => ?_, fun r hr' h => ?_, hi.far, okc⟩, by omega, b3, fun _ _ => rfl, by simp [one, b3]⟩
    · have h1 := (a1 r md).1 h
      obtain ⟨c1, c2, c3⟩ := hi.runs r md hr' h1
      have hne : r ≠ row := fun e => by subst e; exact c3 m hL
      rw [upd_other _ _ hne]
      exact ⟨c1, c2, fun md' h => c3 md' ((a2 r md' hr').1 h).1⟩
    · obtain ⟨h1, h2⟩ := (a2 r md hr').1 h
      obtain ⟨c1, c2, c3⟩ := hi.lst r md hr' h1
      have hne : r ≠ row := fun e => h2 ⟨e, by subst e; omega⟩
      rw [upd_other _ _ hne]
      exact ⟨c1, c2, c3⟩
    · have hne : r ≠ row := fun e => by subst e; exact h b3
      rw [upd_other _ _ hne]
      exact hi.spl r h
    · have hne : r ≠ row := fun e => by subst e; rw [upd_same] at h; exact h rfl
      rw [upd_other _ _ hne] at h ⊢
      rcases hi.all r hr' h with c | c | c
      · exact .inl ((a1 r _).2 c)
      · exact .inr (.inl ((a2 r _ hr').2 ⟨c, fun e => hne e.1⟩))
      · exact .inr (.inr c)
  · have hf0 : f row ≠ 0 := by rw [hfr]; exact Nat.ne_of_gt (Nat.pow_pos (by omega))
    have h1 := hsz hf0
    refine ⟨⟨hi.shape, fun r md hr' h => ?_, fun r md hr' h => ?_, fun r h => ?_, fun r hr' h => ?_, fun r hr' => ?_, okc⟩, by omega, upd_same _ _ _, fun r h => upd_other _ _ h, by simp [one, hf0]; omega⟩
    · obtain ⟨c1, c2, c3⟩ := hi.runs r md hr' h
      have hne : r ≠ row := fun e => by subst e; exact hf0 c2
      rw [upd_other _ _ hne, upd_other _ _ hne]
      exact ⟨c1, c2, c3⟩
    · obtain ⟨c1, c2, c3⟩ := hi.lst r md hr' h
      have hne : r ≠ row := fun e => by subst e; exact hf0 c3
      rw [upd_other _ _ hne, upd_other _ _ hne]
      exact ⟨c1, c2, c3⟩
    · have hne : r ≠ row := fun e => by subst e; rw [upd_same] at h; exact h rfl
      rw [upd_other _ _ hne] at h ⊢
      rw [upd_other _ _ hne]
      exact hi.spl r h
    · have hne : r ≠ row := fun e => by subst e; rw [upd_same] at h; exact h rfl
      rw [upd_other _ _ hne] at h ⊢
      rw [upd_other _ _ hne]
      exact hi.all r hr' h
    · have hne : r ≠ row := by omega
      rw [upd_other _ _ hne]
      exact hi.far r hr'

theorem not_held {ss : List Seg} {f cur : Nat → Nat} {row : Nat} (hi : Inv ss f cur) (hr : row < 4294967296) (h0 : cur row = 0) : (∀ md, ¬ inRuns ss row md) ∧ (∀ md, ¬ inList ss row md) ∧ f row = 0 := by
  refine ⟨fun md h => ?_, fun md h => ?_, ?_⟩
  · have := (hi.runs row md hr h).1
    exact inRuns_ne h (by omega)
  · obtain ⟨a, b, _⟩ := hi.lst row md hr h
    omega
  · by_cases h : f row = 0
    · exact h
    · exact absurd h0 (hi.spl row h).2

theorem inv_add {ss ss' : List Seg} {f f' cur : Nat → Nat} {sz sz' row m : Nat} (hi : Inv ss f cur) (hr : row < 4294967296) (hc : cur row = 0) (hv : okMode m) (h0 : m ≠ 0) (hd : Added ss f sz row m ss' f' sz') :
    Inv ss' f' (upd cur row m) ∧ total ss' + sz' = total ss + sz + 1 ∧ (∀ r, r ≠ row → f' r = f r) ∧ sz' = sz + one (f' row) := by
  obtain ⟨nR, nL, nf⟩ := not_held hi hr hc
  have okc : ∀ r, okMode (upd cur row m r) := fun r => by
    by_cases h : r = row
    · subst h; rw [upd_same]; exact hv
    · rw [upd_other _ _ h]; exact hi.okc r
  rcases hd with ⟨⟨hs, a1, a2, a3⟩, rfl, rfl⟩ | ⟨⟨hs, a1, a2, a3⟩, rfl, rfl⟩ | ⟨rfl, rfl, rfl⟩
  · refine ⟨⟨hs, fun r md hr' h => ?_, fun r md hr' h => ?_, fun r h => ?_, fun r hr' h => ?_, hi.far, okc⟩, by omega, fun _ _ => rfl, by simp [one, nf]⟩
    · rcases (a1 r md hr').1 h with h1 | ⟨rfl, rfl⟩
      · obtain ⟨c1, c2, c3⟩ := hi.runs r md hr' h1
        have hne : r ≠ row := fun e => by subst e; exact nR md h1
        rw [upd_other _ _ hne]
        exact ⟨c1, c2, fun md' h => c3 md' ((a2 r md').1 h)⟩
      · rw [upd_same]
        exact ⟨rfl, nf, fun md' h => nL md' ((a2 r md').1 h)⟩
    · have h1 := (a2 r md).1 h
      have hne : r ≠ row := fun e => by subst e; exact nL md h1
      rw [upd_other _ _ hne]
      exact hi.lst r md hr' h1
    · have hne : r ≠ row := fun e => by subst e; exact h nf
      rw [upd_other _ _ hne]
      exact hi.spl r h
    · by_cases hne : r = row
      · subst hne
        rw [upd_same]
        exact .inl ((a1 r m hr').2 (.inr ⟨rfl, rfl⟩))
      · rw [upd_other _ _ hne] at h ⊢
        rcases hi.all r hr' h with c | c | c
        · exact .inl ((a1 r _ hr').2 (.inl c))
        · exact .inr (.inl ((a2 r _).2 c))
        · exact .inr (.inr c)
  · refine ⟨⟨hs, fun r md hr' h => ?_, fun r md hr' h => ?_, fun r h => ?_, fun r hr' h => ?_, hi.far, okc⟩, by omega, fun _ _ => rfl, by simp [one, nf]⟩
    · have h1 := (a1 r md).1 h
      obtain ⟨c1, c2, c3⟩ := hi.runs r md hr' h1
      have hne : r ≠ row := fun e => by subst e; exact nR md h1
      rw [upd_other _ _ hne]
      refine ⟨c1, c2, fun md' h => ?_⟩
      rcases (a2 r md' hr').1 h with h | h
      · exact c3 md' h
      · exact hne h.1
    · rcases (a2 r md hr').1 h with h1 | ⟨rfl, rfl⟩
      · obtain ⟨c1, c2, c3⟩ := hi.lst r md hr' h1
        have hne : r ≠ row := fun e => by subst e; exact nL md h1
        rw [upd_other _ _ hne]
        exact ⟨c1, c2, c3⟩
      · rw [upd_same]
        exact ⟨rfl, h0, nf⟩
    · have hne : r ≠ row := fun e => by subst e; exact h nf
      rw [upd_other _ _ hne]
      exact hi.spl r h
    · by_cases hne : r = row
      · subst hne
        rw [upd_same]
        exact .inr (.inl ((a2 r m hr').2 (.inr ⟨rfl, rfl⟩)))
      · rw [upd_other _ _ hne] at h ⊢
        rcases hi.all r hr' h with c | c | c
        · exact .inl ((a1 r _).2 c)
        · exact .inr (.inl ((a2 r _ hr').2 (.inl c)))
        · exact .inr (.inr c)
  · have hp : (2 : Nat) ^ m ≠ 0 := Nat.ne_of_gt (Nat.pow_pos (by omega))
    refine ⟨⟨hi.shape, fun r md hr' h => ?_, fun r md hr' h => ?_, fun r h => ?_, fun r hr' h => ?_, fun r hr' => ?_, okc⟩, by omega, fun r h => upd_other _ _ h, by rw [upd_same]; simp [one]⟩
    · have hne : r ≠ row := fun e => by subst e; exact nR md h
      rw [upd_other _ _ hne, upd_other _ _ hne]
      exact hi.runs r md hr' h
    · have hne : r ≠ row := fun e => by subst e; exact nL md h
      rw [upd_other _ _ hne, upd_other _ _ hne]
      exact hi.lst r md hr' h
    · by_cases hne : r = row
      · subst hne
        rw [upd_same, upd_same]
        exact ⟨rfl, h0⟩
      · rw [upd_other _ _ hne] at h ⊢
        rw [upd_other _ _ hne]
        exact hi.spl r h
    · by_cases hne : r = row
      · subst hne
        exact .inr (.inr (by rw [upd_same]; exact hp))
      · rw [upd_other _ _ hne] at h ⊢
        rw [upd_other _ _ hne]
        exact hi.all r hr' h
    · have hne : r ≠ row := by omega
      rw [upd_other _ _ hne]
      exact hi.far r hr'
end Go.Proofs.Qxb6605852a
