import Derived.Test.Qxb6605852aSmall
import Derived.Test.Qxb6605852aFlat
namespace Go.Proofs.Qxb6605852a
set_option linter.unusedVariables false

def offs (r first : Nat) : Nat := (r + 4294967296 - first) % 4294967296
def inRuns (ss : List Seg) (r md : Nat) : Prop := ∃ s ∈ ss, s.mode = md ∧ md ≠ 0 ∧ inBits s.words (offs r s.first) = true
def inList (ss : List Seg) (r md : Nat) : Prop := ∃ s ∈ ss, s.mode = 0 ∧ lw r md ∈ s.words
def segCount (s : Seg) : Nat := if s.mode = 0 then s.words.length else (s.words.map pc).sum
def total (ss : List Seg) : Nat := (ss.map segCount).sum
def okMode (m : Nat) : Prop := m ≤ 9 ∨ (13 ≤ m ∧ m ≤ 21)

structure Shape (ss : List Seg) : Prop where
  ok : ∀ s ∈ ss, SegOk s
  modes : (ss.map (·.mode)).Nodup
  valid : ∀ s ∈ ss, okMode s.mode
  bit : ∀ s ∈ ss, s.mode ≠ 0 → s.words.any (fun x => decide (x ≠ 0)) = true
  lst : ∀ s ∈ ss, s.mode = 0 → s.first = 0 ∧ s.words.Nodup ∧ s.words.length ≤ 16 ∧ ∀ x ∈ s.words, ∃ r md, x = lw r md ∧ r < 4294967296 ∧ md ≠ 0 ∧ okMode md

theorem mode_inj {ss : List Seg} (h : (ss.map (·.mode)).Nodup) {i j : Nat} (hi : i < ss.length) (hj : j < ss.length) (e : ss[i].mode = ss[j].mode) : i = j := by
  have h2 := List.pairwise_iff_getElem.1 h
  rcases Nat.lt_trichotomy i j with hlt | rfl | hlt
  · exact absurd (by rw [List.getElem_map, List.getElem_map]; exact e) (h2 i j (by simpa using hi) (by simpa using hj) hlt)
  · rfl
  · exact absurd (by rw [List.getElem_map, List.getElem_map]; exact e.symm) (h2 j i (by simpa using hj) (by simpa using hi) hlt)

theorem mem_at {ss : List Seg} {s : Seg} (h : s ∈ ss) : ∃ i, ∃ hi : i < ss.length, s = ss[i] := by
  obtain ⟨i, hi, e⟩ := List.getElem_of_mem h
  exact ⟨i, hi, e.symm⟩

theorem mem_set_iff (ss : List Seg) (j : Nat) (hj : j < ss.length) (s' s : Seg) : s ∈ ss.set j s' ↔ s = s' ∨ ∃ i, ∃ hi : i < ss.length, i ≠ j ∧ s = ss[i] := by
  constructor
  · intro h
    obtain ⟨i, hi, e⟩ := List.getElem_of_mem h
    have hi' : i < ss.length := by simpa using hi
    by_cases hij : i = j
    · subst hij
      left
      rw [← e]; simp
    · right
      exact ⟨i, hi', hij, by rw [← e, List.getElem_set_ne (fun e => hij e.symm)]⟩
  · rintro (rfl | ⟨i, hi, hij, rfl⟩)
    · exact List.mem_set hj _
    · rw [List.mem_iff_getElem]
      exact ⟨i, by simpa using hi, by rw [List.getElem_set_ne (fun e => hij e.symm)]⟩

theorem mem_erase_iff (ss : List Seg) (j : Nat) (hj : j < ss.length) (s : Seg) : s ∈ ss.eraseIdx j ↔ ∃ i, ∃ hi : i < ss.length, i ≠ j ∧ s = ss[i] := by
  rw [List.mem_eraseIdx_iff_getElem]
  constructor
  · rintro ⟨i, hi, hij, e⟩
    exact ⟨i, hi, hij, e.symm⟩
  · rintro ⟨i, hi, hij, e⟩
    exact ⟨i, hi, hij, e.symm⟩

theorem inRuns_set (ss : List Seg) (hm : (ss.map (·.mode)).Nodup) (j : Nat) (hj : j < ss.length) (s' : Seg) (he : s'.mode = ss[j].mode) (r md : Nat) :
    inRuns (ss.set j s') r md ↔ (md = s'.mode ∧ md ≠ 0 ∧ inBits s'.words (offs r s'.first) = true) ∨ (md ≠ s'.mode ∧ inRuns ss r md) := by
  unfold inRuns
  constructor
  · rintro ⟨s, hs, h1, h2, h3⟩
    rcases (mem_set_iff ss j hj s' s).1 hs with rfl | ⟨i, hi, hij, rfl⟩
    · exact .inl ⟨h1.symm, h2, h3⟩
    · refine .inr ⟨fun e => hij (mode_inj hm hi hj (by omega)), ss[i], List.getElem_mem hi, h1, h2, h3⟩
  · rintro (⟨h1, h2, h3⟩ | ⟨hne, s, hs, h1, h2, h3⟩)
    · exact ⟨s', (mem_set_iff ss j hj s' s').2 (.inl rfl), h1.symm, h2, h3⟩
    · obtain ⟨i, hi, rfl⟩ := mem_at hs
      refine ⟨ss[i], (mem_set_iff ss j hj s' _).2 (.inr ⟨i, hi, fun e => hne ?_, rfl⟩), h1, h2, h3⟩
      subst e
      omega

theorem inList_set (ss : List Seg) (hm : (ss.map (·.mode)).Nodup) (j : Nat) (hj : j < ss.length) (s' : Seg) (he : s'.mode = ss[j].mode) (r md : Nat) :
    inList (ss.set j s') r md ↔ (s'.mode = 0 ∧ lw r md ∈ s'.words) ∨ (s'.mode ≠ 0 ∧ inList ss r md) := by
  unfold inList
  constructor
  · rintro ⟨s, hs, h1, h2⟩
    rcases (mem_set_iff ss j hj s' s).1 hs with rfl | ⟨i, hi, hij, rfl⟩
    · exact .inl ⟨h1, h2⟩
    · refine .inr ⟨fun e => hij (mode_inj hm hi hj (by omega)), ss[i], List.getElem_mem hi, h1, h2⟩
  · rintro (⟨h1, h2⟩ | ⟨hne, s, hs, h1, h2⟩)
    · exact ⟨s', (mem_set_iff ss j hj s' s').2 (.inl rfl), h1, h2⟩
    · obtain ⟨i, hi, rfl⟩ := mem_at hs
      refine ⟨ss[i], (mem_set_iff ss j hj s' _).2 (.inr ⟨i, hi, fun e => hne ?_, rfl⟩), h1, h2⟩
      subst e
      omega

theorem inRuns_erase (ss : List Seg) (hm : (ss.map (·.mode)).Nodup) (j : Nat) (hj : j < ss.length) (r md : Nat) : inRuns (ss.eraseIdx j) r md ↔ md ≠ ss[j].mode ∧ inRuns ss r md := by
  unfold inRuns
  constructor
  · rintro ⟨s, hs, h1, h2, h3⟩
    obtain ⟨i, hi, hij, rfl⟩ := (mem_erase_iff ss j hj s).1 hs
    exact ⟨fun e => hij (mode_inj hm hi hj (by omega)), ss[i], List.getElem_mem hi, h1, h2, h3⟩
  · rintro ⟨hne, s, hs, h1, h2, h3⟩
    obtain ⟨i, hi, rfl⟩ := mem_at hs
    exact ⟨ss[i], (mem_erase_iff ss j hj _).2 ⟨i, hi, fun e => hne (by subst e; omega), rfl⟩, h1, h2, h3⟩

theorem inList_erase (ss : List Seg) (hm : (ss.map (·.mode)).Nodup) (j : Nat) (hj : j < ss.length) (r md : Nat) : inList (ss.eraseIdx j) r md ↔ ss[j].mode ≠ 0 ∧ inList ss r md := by
  unfold inList
  constructor
  · rintro ⟨s, hs, h1, h2⟩
    obtain ⟨i, hi, hij, rfl⟩ := (mem_erase_iff ss j hj s).1 hs
    exact ⟨fun e => hij (mode_inj hm hi hj (by omega)), ss[i], List.getElem_mem hi, h1, h2⟩
  · rintro ⟨hne, s, hs, h1, h2⟩
    obtain ⟨i, hi, rfl⟩ := mem_at hs
    exact ⟨ss[i], (mem_erase_iff ss j hj _).2 ⟨i, hi, fun e => hne (by subst e; omega), rfl⟩, h1, h2⟩

theorem inRuns_append (ss : List Seg) (s : Seg) (r md : Nat) : inRuns (ss ++ [s]) r md ↔ inRuns ss r md ∨ (md = s.mode ∧ md ≠ 0 ∧ inBits s.words (offs r s.first) = true) := by
  unfold inRuns
  constructor
  · rintro ⟨t, ht, h1, h2, h3⟩
    rcases List.mem_append.1 ht with ht | ht
    · exact .inl ⟨t, ht, h1, h2, h3⟩
    · obtain rfl := List.mem_singleton.1 ht
      exact .inr ⟨h1.symm, h2, h3⟩
  · rintro (⟨t, ht, h⟩ | ⟨h1, h2, h3⟩)
    · exact ⟨t, List.mem_append_left _ ht, h⟩
    · exact ⟨s, by simp, h1.symm, h2, h3⟩

theorem inList_append (ss : List Seg) (s : Seg) (r md : Nat) : inList (ss ++ [s]) r md ↔ inList ss r md ∨ (s.mode = 0 ∧ lw r md ∈ s.words) := by
  unfold inList
  constructor
  · rintro ⟨t, ht, h1, h2⟩
    rcases List.mem_append.1 ht with ht | ht
    · exact .inl ⟨t, ht, h1, h2⟩
    · obtain rfl := List.mem_singleton.1 ht
      exact .inr ⟨h1, h2⟩
  · rintro (⟨t, ht, h⟩ | ⟨h1, h2⟩)
    · exact ⟨t, List.mem_append_left _ ht, h⟩
    · exact ⟨s, by simp, h1, h2⟩

theorem total_parts (ss : List Seg) (j : Nat) (hj : j < ss.length) : ∃ c, total ss = c + segCount ss[j] ∧ (∀ s', total (ss.set j s') = c + segCount s') ∧ total (ss.eraseIdx j) = c := by
  refine ⟨total (ss.take j) + total (ss.drop (j + 1)), ?_, fun s' => ?_, ?_⟩
  · have e : ss = ss.take j ++ ss[j] :: ss.drop (j + 1) := by rw [← List.drop_eq_getElem_cons hj, List.take_append_drop]
    have e2 : total ss = total (ss.take j ++ ss[j] :: ss.drop (j + 1)) := congrArg total e
    rw [e2]
    simp only [total, List.map_append, List.sum_append, List.map_cons, List.sum_cons]
    omega
  · rw [List.set_eq_take_append_cons_drop, if_pos hj]
    simp [total]
    omega
  · rw [List.eraseIdx_eq_take_drop_succ]
    simp [total]

theorem total_append (ss : List Seg) (s : Seg) : total (ss ++ [s]) = total ss + segCount s := by simp [total]
end Go.Proofs.Qxb6605852a
