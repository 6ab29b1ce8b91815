import Derived.Test.Qxb6605852aRowK
namespace Go.Proofs.Qxb6605852a
set_option linter.unusedVariables false

/-- How many rows of T the model holds. -/
def held (cur : Nat → Nat) (T : List Nat) : Nat := (T.map (fun r => one (cur r))).sum

theorem held_nil (cur : Nat → Nat) : held cur [] = 0 := rfl
theorem held_cons (cur : Nat → Nat) (r : Nat) (T : List Nat) : held cur (r :: T) = one (cur r) + held cur T := rfl
theorem held_snoc (cur : Nat → Nat) (r : Nat) (T : List Nat) : held cur (T ++ [r]) = held cur T + one (cur r) := by simp [held]
theorem held_le (cur : Nat → Nat) (T : List Nat) : held cur T ≤ T.length := by
  induction T with
  | nil => simp [held]
  | cons r T ih =>
    rw [held_cons, List.length_cons]
    have : one (cur r) ≤ 1 := by unfold one; split <;> omega
    omega
theorem held_congr {f g : Nat → Nat} {T : List Nat} (h : ∀ r ∈ T, f r = g r) : held f T = held g T := by
  unfold held
  congr 1
  exact List.map_congr_left (fun r hr => by rw [h r hr])
theorem held_out (cur : Nat → Nat) (r x : Nat) (T : List Nat) (h : r ∉ T) : held (upd cur r x) T = held cur T :=
  held_congr (fun i hi => upd_other cur x (fun e => h (e ▸ hi)))
theorem held_in (cur : Nat → Nat) (r x : Nat) : ∀ T : List Nat, T.Nodup → r ∈ T → held (upd cur r x) T + one (cur r) = held cur T + one x := by
  intro T
  induction T with
  | nil => intro _ h; simp at h
  | cons a T ih =>
    intro hn hr
    obtain ⟨h1, h2⟩ := List.nodup_cons.1 hn
    rw [held_cons, held_cons]
    by_cases e : a = r
    · subst e
      rw [upd_same, held_out cur a x T h1]
      omega
    · rw [upd_other cur x e]
      have : r ∈ T := by
        rcases List.mem_cons.1 hr with h | h
        · exact absurd h.symm e
        · exact h
      have := ih h2 this
      omega
theorem held_pos {cur : Nat → Nat} {r : Nat} : ∀ {T : List Nat}, r ∈ T → cur r ≠ 0 → 1 ≤ held cur T := by
  intro T
  induction T with
  | nil => intro h; simp at h
  | cons a T ih =>
    intro hr h0
    rw [held_cons]
    rcases List.mem_cons.1 hr with rfl | h
    · rw [one_pos h0]; omega
    · have := ih h h0; omega
theorem held_take_succ (cur : Nat → Nat) (T : List Nat) (k : Nat) (h : k < T.length) : held cur (T.take (k + 1)) = held cur (T.take k) + one (cur (gw T k)) := by
  rw [List.take_succ_eq_append_getElem h, held_snoc, gw_of_lt h]

/-- After n rounds of a script. -/
structure Played (ss : List Seg) (f : Nat → Nat) (sz : Nat) (cur : Nat → Nat) (hs : Nat → Bool) (T : List Nat) (n : Nat) : Prop where
  inv : Inv ss f cur
  nd : T.Nodup
  mem : ∀ r, r < 4294967296 → (hs r = true ↔ r ∈ T)
  rows : ∀ r ∈ T, r < 4294967296
  cov : ∀ r, cur r ≠ 0 → r ∈ T
  tot : held cur T = total ss + sz
  spn : held f T = sz
  len : (flat ss).length ≤ 2 * n
  tl : T.length ≤ n

theorem Played.more {ss : List Seg} {f : Nat → Nat} {sz : Nat} {cur : Nat → Nat} {hs : Nat → Bool} {T : List Nat} {n n' : Nat} (h : Played ss f sz cur hs T n) (hn : n ≤ n') : Played ss f sz cur hs T n' :=
  ⟨h.inv, h.nd, h.mem, h.rows, h.cov, h.tot, h.spn, by have := h.len; omega, by have := h.tl; omega⟩

theorem Played.pos {ss : List Seg} {f : Nat → Nat} {sz : Nat} {cur : Nat → Nat} {hs : Nat → Bool} {T : List Nat} {n : Nat} (h : Played ss f sz cur hs T n) (r : Nat) (hf : f r ≠ 0) : 1 ≤ sz := by
  rw [← h.spn]
  exact held_pos (h.cov r (h.inv.spl r hf).2) hf
theorem Played.sz {ss : List Seg} {f : Nat → Nat} {sz : Nat} {cur : Nat → Nat} {hs : Nat → Bool} {T : List Nat} {n : Nat} (h : Played ss f sz cur hs T n) : sz ≤ n := by
  have := h.spn
  have := held_le f T
  have := h.tl
  omega

theorem inv_none : Inv [] (fun _ => 0) (fun _ => 0) := by
  refine ⟨⟨by simp, by simp, by simp, by simp, by simp⟩, fun r md _ h => ?_, fun r md _ h => ?_, fun r h => absurd rfl h, fun r _ h => absurd rfl h, fun _ _ => rfl, fun _ => okMode_zero⟩
  · obtain ⟨s, hs, _⟩ := h; simp at hs
  · obtain ⟨s, hs, _⟩ := h; simp at hs

theorem played_none : Played [] (fun _ => 0) 0 (fun _ => 0) (fun _ => false) [] 0 :=
  ⟨inv_none, by simp, by simp, by simp, by simp, by simp [held, total], by simp [held], by simp [flat], by simp⟩

theorem played_in {ss ss' : List Seg} {f f' : Nat → Nat} {sz sz' : Nat} {cur : Nat → Nat} {hs : Nat → Bool} {T : List Nat} {n r m : Nat} (h : Played ss f sz cur hs T n) (hr : r < 4294967296) (hS : SetR ss f sz cur r m ss' f' sz') (hin : r ∈ T) :
    Played ss' f' sz' (upd cur r m) (upd hs r true) T (n + 1) := by
  obtain ⟨a1, a2, a3, a4, a5⟩ := hS
  refine ⟨a1, h.nd, fun i hi => ?_, h.rows, fun i hi => ?_, ?_, ?_, by have := h.len; omega, by have := h.tl; omega⟩
  · by_cases e : i = r
    · subst e; rw [upd_same]; simp [hin]
    · rw [upd_other _ _ e]; exact h.mem i hi
  · by_cases e : i = r
    · exact e ▸ hin
    · rw [upd_other _ _ e] at hi; exact h.cov i hi
  · have := held_in cur r m T h.nd hin
    have := h.tot
    omega
  · have e : f' = upd f r (f' r) := by
      funext i
      by_cases e : i = r
      · subst e; rw [upd_same]
      · rw [upd_other _ _ e]; exact a3 i e
    have h1 := held_in f r (f' r) T h.nd hin
    rw [← e] at h1
    have := h.spn
    omega

theorem played_out {ss ss' : List Seg} {f f' : Nat → Nat} {sz sz' : Nat} {cur : Nat → Nat} {hs : Nat → Bool} {T : List Nat} {n r m : Nat} (h : Played ss f sz cur hs T n) (hr : r < 4294967296) (hS : SetR ss f sz cur r m ss' f' sz') (hout : r ∉ T) :
    Played ss' f' sz' (upd cur r m) (upd hs r true) (T ++ [r]) (n + 1) := by
  obtain ⟨a1, a2, a3, a4, a5⟩ := hS
  have hc0 : cur r = 0 := by
    by_cases e : cur r = 0
    · exact e
    · exact absurd (h.cov r e) hout
  have hf0 : f r = 0 := by
    by_cases e : f r = 0
    · exact e
    · exact absurd hc0 (h.inv.spl r e).2
  refine ⟨a1, ?_, fun i hi => ?_, fun i hi => ?_, fun i hi => ?_, ?_, ?_, by have := h.len; omega, by have := h.tl; simp; omega⟩
  · rw [List.nodup_append]
    refine ⟨h.nd, by simp, fun a ha b hb => ?_⟩
    simp only [List.mem_singleton] at hb
    rintro rfl
    exact hout (hb ▸ ha)
  · by_cases e : i = r
    · subst e; rw [upd_same]; simp
    · rw [upd_other _ _ e, h.mem i hi]; simp [e]
  · rcases List.mem_append.1 hi with hi | hi
    · exact h.rows i hi
    · simp only [List.mem_singleton] at hi; omega
  · by_cases e : i = r
    · simp [e]
    · rw [upd_other _ _ e] at hi
      simp [h.cov i hi]
  · rw [held_snoc, held_out _ _ _ _ hout, upd_same]
    have := h.tot
    rw [hc0, one_zero] at a2
    omega
  · have e : held f' T = held f T := held_congr (fun i hi => a3 i (fun e => hout (e ▸ hi)))
    rw [held_snoc, e]
    have := h.spn
    rw [hf0, one_zero] at a4
    omega

/-- The list of touched rows after one more. -/
def touch (hs : Nat → Bool) (T : List Nat) (r : Nat) : List Nat := if hs r then T else T ++ [r]
theorem played_step {ss ss' : List Seg} {f f' : Nat → Nat} {sz sz' : Nat} {cur : Nat → Nat} {hs : Nat → Bool} {T : List Nat} {n r m : Nat} (h : Played ss f sz cur hs T n) (hr : r < 4294967296) (hS : SetR ss f sz cur r m ss' f' sz') :
    Played ss' f' sz' (upd cur r m) (upd hs r true) (touch hs T r) (n + 1) := by
  unfold touch
  by_cases hh : hs r = true
  · rw [if_pos hh]; exact played_in h hr hS ((h.mem r hr).1 hh)
  · rw [if_neg hh]; exact played_out h hr hS (fun e => hh ((h.mem r hr).2 e))

/-! ### What the readers answer -/
theorem pc_one {ss : List Seg} {f cur : Nat → Nat} (h : Inv ss f cur) (r : Nat) : pc (f r) = one (f r) := by
  by_cases e : f r = 0
  · rw [e, pc_zero, one_zero]
  · rw [one_pos e, (h.spl r e).1]
    have := h.okc r
    unfold okMode at this
    exact pc_pow _ (by omega)

theorem f_lt {ss : List Seg} {f cur : Nat → Nat} (h : Inv ss f cur) (r : Nat) : f r < 4294967296 := by
  by_cases e : f r = 0
  · omega
  · rw [(h.spl r e).1]
    have := h.okc r
    unfold okMode at this
    have h2 : 2 ^ cur r ≤ 2 ^ 31 := Nat.pow_le_pow_right (by omega) (by omega)
    omega

/-- The bits of a row: its mode's alone. -/
def bitOf (m : Nat) : Nat := if m = 0 then 0 else 2 ^ m

theorem mask_is {ss : List Seg} {f cur : Nat → Nat} (h : Inv ss f cur) {r M : Nat} (hr : r < 4294967296) (hM : MaskIs ss r (f r) ss.length M) : M = bitOf (cur r) := by
  obtain ⟨_, hM⟩ := hM
  rw [List.take_of_length_le (Nat.le_refl _)] at hM
  have key : ∀ i, M.testBit i = true ↔ i = cur r ∧ cur r ≠ 0 := by
    intro i
    rw [hM i]
    constructor
    · rintro (hb | ⟨s, hs, ⟨h1, h2, h3⟩ | ⟨h1, h2⟩⟩)
      · have hf : f r ≠ 0 := by intro e; rw [e] at hb; simp at hb
        obtain ⟨e1, e2⟩ := h.spl r hf
        rw [e1] at hb
        refine ⟨?_, e2⟩
        by_cases e : i = cur r
        · exact e
        · rw [Nat.testBit_two_pow_of_ne (fun x => e x.symm)] at hb; simp at hb
      · have := h.runs r s.mode hr ⟨s, hs, rfl, h1, h3⟩
        exact ⟨by rw [this.1]; exact h2, by rw [this.1]; exact h1⟩
      · have := h.lst r i hr ⟨s, hs, h1, h2⟩
        exact ⟨this.1.symm, by rw [this.1]; exact this.2.1⟩
    · rintro ⟨rfl, h0⟩
      rcases h.all r hr h0 with ⟨s, hs, h1, h2, h3⟩ | ⟨s, hs, h1, h2⟩ | hf
      · exact .inr ⟨s, hs, .inl ⟨by rw [h1]; exact h0, h1.symm, h3⟩⟩
      · exact .inr ⟨s, hs, .inr ⟨h1, h2⟩⟩
      · left
        rw [(h.spl r hf).1]
        exact Nat.testBit_two_pow_self
  apply Nat.eq_of_testBit_eq
  intro i
  rw [Bool.eq_iff_iff, key]
  unfold bitOf
  split
  · rename_i e
    simp [e]
  · rename_i e
    by_cases hi : i = cur r
    · subst hi; simp [e, Nat.testBit_two_pow_self]
    · rw [Nat.testBit_two_pow_of_ne (fun x => hi x.symm)]; simp [hi]
end Go.Proofs.Qxb6605852a
