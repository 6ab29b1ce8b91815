import Derived.Test.Qxb6605852aBitsHeld
namespace Go.Proofs.Qxb6605852a
set_option linter.unusedVariables false

def LstOk (s : Seg) : Prop := s.first = 0 ∧ s.words.Nodup ∧ s.words.length ≤ 16 ∧ ∀ x ∈ s.words, ∃ r md, x = lw r md ∧ r < 4294967296 ∧ md ≠ 0 ∧ okMode md

theorem Shape.set {ss : List Seg} (h : Shape ss) (j : Nat) (hj : j < ss.length) (s' : Seg) (he : s'.mode = ss[j].mode) (ok : SegOk s') (bit : s'.mode ≠ 0 → s'.words.any (fun x => decide (x ≠ 0)) = true) (lst : s'.mode = 0 → LstOk s') : Shape (ss.set j s') := by
  have key : ∀ s, s ∈ ss.set j s' → s = s' ∨ s ∈ ss := fun s hs => by
    rcases (mem_set_iff ss j hj s' s).1 hs with h | ⟨i, hi, _, rfl⟩
    · exact .inl h
    · exact .inr (List.getElem_mem hi)
  refine ⟨fun s hs => ?_, ?_, fun s hs => ?_, fun s hs => ?_, fun s hs => ?_⟩
  · rcases key s hs with rfl | hs
    · exact ok
    · exact h.ok s hs
  · have e : (ss.set j s').map (·.mode) = ss.map (·.mode) := by
      rw [List.map_set, he]
      apply List.ext_getElem (by simp)
      intro i h1 h2
      by_cases hij : j = i
      · subst hij; simp
      · rw [List.getElem_set_ne hij]
    rw [e]
    exact h.modes
  · rcases key s hs with rfl | hs
    · rw [he]; exact h.valid _ (List.getElem_mem hj)
    · exact h.valid s hs
  · rcases key s hs with rfl | hs
    · exact bit
    · exact h.bit s hs
  · rcases key s hs with rfl | hs
    · exact lst
    · exact h.lst s hs

theorem Shape.erase {ss : List Seg} (h : Shape ss) (j : Nat) : Shape (ss.eraseIdx j) := by
  have key : ∀ s, s ∈ ss.eraseIdx j → s ∈ ss := fun s hs => List.mem_of_mem_eraseIdx hs
  refine ⟨fun s hs => h.ok s (key s hs), ?_, fun s hs => h.valid s (key s hs), fun s hs => h.bit s (key s hs), fun s hs => h.lst s (key s hs)⟩
  have hs : ((ss.eraseIdx j).map (·.mode)).Sublist (ss.map (·.mode)) := (List.eraseIdx_sublist ss j).map _
  exact List.Nodup.sublist hs h.modes

theorem Shape.append {ss : List Seg} (h : Shape ss) (s' : Seg) (ok : SegOk s') (hv : okMode s'.mode) (hn : ∀ s ∈ ss, s.mode ≠ s'.mode) (bit : s'.mode ≠ 0 → s'.words.any (fun x => decide (x ≠ 0)) = true) (lst : s'.mode = 0 → LstOk s') : Shape (ss ++ [s']) := by
  have key : ∀ s, s ∈ ss ++ [s'] → s ∈ ss ∨ s = s' := fun s hs => by simpa using hs
  refine ⟨fun s hs => ?_, ?_, fun s hs => ?_, fun s hs => ?_, fun s hs => ?_⟩
  · rcases key s hs with hs | rfl
    · exact h.ok s hs
    · exact ok
  · rw [List.map_append, List.nodup_append]
    refine ⟨h.modes, by simp, fun a ha b hb => ?_⟩
    simp only [List.map_cons, List.map_nil, List.mem_singleton] at hb
    subst hb
    obtain ⟨s, hs, rfl⟩ := List.mem_map.1 ha
    exact hn s hs
  · rcases key s hs with hs | rfl
    · exact h.valid s hs
    · exact hv
  · rcases key s hs with hs | rfl
    · exact h.bit s hs
    · exact bit
  · rcases key s hs with hs | rfl
    · exact h.lst s hs
    · exact lst

theorem lw_inj {r r' m m' : Nat} (h : r < 4294967296) (h' : r' < 4294967296) (e : lw r m = lw r' m') : r = r' ∧ m = m' := by
  unfold lw at e; omega

theorem lw_lt {r m : Nat} (h : r < 4294967296) (hm : okMode m) : lw r m < 18446744073709551616 := by
  unfold lw okMode at *; omega

theorem okMode_lt {m : Nat} (h : okMode m) : m < 32 := by unfold okMode at h; omega

theorem any_set {ws : List Nat} {q y : Nat} (hq : q < ws.length) (hy : y ≠ 0) : (ws.set q y).any (fun x => decide (x ≠ 0)) = true := by
  rw [List.any_eq_true]
  exact ⟨y, List.mem_set hq y, by simpa using hy⟩

theorem inBits_any {ws : List Nat} {o : Nat} (h : inBits ws o = true) : ws.any (fun x => decide (x ≠ 0)) = true := by
  unfold inBits at h
  simp only [Bool.and_eq_true, decide_eq_true_eq] at h
  rw [List.any_eq_true]
  refine ⟨gw ws (o / 64), gw_in h.1, ?_⟩
  simp only [ne_eq, decide_not, Bool.not_eq_true', decide_eq_false_iff_not]
  intro e
  rw [e] at h
  simp at h

theorem inBits_none {ws : List Nat} {o : Nat} (h : ws.any (fun x => decide (x ≠ 0)) = false) : inBits ws o = false := by
  cases hb : inBits ws o with
  | false => rfl
  | true => rw [inBits_any hb] at h; exact absurd h (by simp)

theorem segCount_run (s : Seg) (h : s.mode ≠ 0) : segCount s = pcs s.words := by simp [segCount, h, pcs]
theorem segCount_list (s : Seg) (h : s.mode = 0) : segCount s = s.words.length := by simp [segCount, h]

theorem Shape.good {ss : List Seg} (h : Shape ss) (hl : (flat ss).length ≤ 100000) : Good ss := ⟨h.ok, hl⟩

theorem Shape.one {ss : List Seg} (h : Shape ss) (j : Nat) (hj : j < ss.length) (m : Nat) (hm : ss[j].mode = m) (i : Nat) (hi : i < ss.length) (e : ss[i].mode = m) : i = j := mode_inj h.modes hi hj (by omega)
end Go.Proofs.Qxb6605852a
