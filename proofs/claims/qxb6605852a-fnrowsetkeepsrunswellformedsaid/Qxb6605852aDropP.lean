import Derived.Test.Qxb6605852aShape
namespace Go.Proofs.Qxb6605852a
set_option linter.unusedVariables false
set_option linter.unusedSectionVars false
set_option linter.unusedSimpArgs false

theorem inRuns_at {ss : List Seg} (h : Shape ss) (j : Nat) (hj : j < ss.length) (m : Nat) (hm : ss[j].mode = m) (h0 : m ≠ 0) (r : Nat) : inRuns ss r m ↔ inBits ss[j].words (offs r ss[j].first) = true := by
  constructor
  · rintro ⟨s, hs, h1, h2, h3⟩
    obtain ⟨i, hi, rfl⟩ := mem_at hs
    obtain rfl := h.one j hj m hm i hi h1
    exact h3
  · intro h3
    exact ⟨ss[j], List.getElem_mem hj, hm, h0, h3⟩

theorem inList_at {ss : List Seg} (h : Shape ss) (j : Nat) (hj : j < ss.length) (hm : ss[j].mode = 0) (r md : Nat) : inList ss r md ↔ lw r md ∈ ss[j].words := by
  constructor
  · rintro ⟨s, hs, h1, h2⟩
    obtain ⟨i, hi, rfl⟩ := mem_at hs
    obtain rfl := h.one j hj 0 hm i hi h1
    exact h2
  · intro h3
    exact ⟨ss[j], List.getElem_mem hj, hm, h3⟩

theorem inRuns_ne {ss : List Seg} {r md : Nat} (h : inRuns ss r md) : md ≠ 0 := by
  obtain ⟨s, _, _, h2, _⟩ := h
  exact h2

theorem pcs_none {ws : List Nat} (h : ws.any (fun x => decide (x ≠ 0)) = false) : pcs ws = 0 := by
  induction ws with
  | nil => rfl
  | cons x ws ih =>
    simp only [List.any_cons, Bool.or_eq_false_iff] at h
    have hx : x = 0 := by simpa using h.1
    have := ih h.2
    simp only [pcs, List.map_cons, List.sum_cons] at *
    rw [hx, pc_zero, this]

theorem drop_pc {ss : List Seg} (h : Shape ss) (j : Nat) (hj : j < ss.length) (m : Nat) (hm : ss[j].mode = m) (h0 : m ≠ 0) (row : Nat) (hr : row < 4294967296) (off q k x : Nat)
    (ho : off = offs row ss[j].first) (hq : q = off / 64) (hk : k = off % 64) (hqn : q < ss[j].words.length) (hx : gw ss[j].words q = x) (hb : x.testBit k = true) : pcs (ss[j].words.set q (x - 2 ^ k)) + 1 = pcs ss[j].words := by
  have h1 := pcs_set ss[j].words q (x - 2 ^ k) hqn
  have h2 := pc_sub x k (by omega) hb
  rw [hx] at h1
  omega

theorem drop_bit_pure {ss : List Seg} (h : Shape ss) (j : Nat) (hj : j < ss.length) (m : Nat) (hm : ss[j].mode = m) (h0 : m ≠ 0) (row : Nat) (hr : row < 4294967296) (off q k x : Nat)
    (ho : off = offs row ss[j].first) (hq : q = off / 64) (hk : k = off % 64) (hqn : q < ss[j].words.length) (hx : gw ss[j].words q = x) (hb : x.testBit k = true) (hleft : (ss[j].words.set q (x - 2 ^ k)).any (fun x => decide (x ≠ 0)) = true) :
    Shape (ss.set j ⟨ss[j].first, ss[j].mode, ss[j].words.set q (x - 2 ^ k)⟩) ∧
    (∀ r md, r < 4294967296 → (inRuns (ss.set j ⟨ss[j].first, ss[j].mode, ss[j].words.set q (x - 2 ^ k)⟩) r md ↔ inRuns ss r md ∧ ¬ (r = row ∧ md = m))) ∧
    (∀ r md, inList (ss.set j ⟨ss[j].first, ss[j].mode, ss[j].words.set q (x - 2 ^ k)⟩) r md ↔ inList ss r md) ∧
    total (ss.set j ⟨ss[j].first, ss[j].mode, ss[j].words.set q (x - 2 ^ k)⟩) + 1 = total ss := by
  have hs := h.ok _ (List.getElem_mem hj)
  refine ⟨h.set j hj _ rfl ⟨hs.first, hs.mode, by simpa using hs.pos, fun y hy => ?_⟩ (fun _ => hleft) (fun e => absurd (hm ▸ e : m = 0) h0), fun r md hr' => ?_, fun r md => ?_, ?_⟩
  · rcases List.mem_or_eq_of_mem_set hy with hy | rfl
    · exact hs.word y hy
    · have h1 := hs.word x (hx ▸ gw_in hqn)
      exact Nat.lt_of_le_of_lt (Nat.sub_le _ _) h1
  · rw [inRuns_set ss h.modes j hj ⟨ss[j].first, ss[j].mode, ss[j].words.set q (x - 2 ^ k)⟩ rfl]
    by_cases hmd : md = m
    · subst hmd
      rw [inRuns_at h j hj md hm h0]
      simp only [hm, ne_eq, not_true_eq_false, false_and, or_false, true_and, and_true]
      rw [inBits_sub hqn hx (by omega) hb]
      have e1 : 64 * q + k = offs row ss[j].first := by omega
      rw [e1]
      constructor
      · rintro ⟨_, a, b⟩
        exact ⟨a, fun e => b (by rw [e])⟩
      · rintro ⟨a, b⟩
        exact ⟨h0, a, fun e => b (offs_inj hr' hr hs.first e)⟩
    · simp only [hm, hmd, false_and, ne_eq, not_false_eq_true, true_and, false_or, and_false, and_true]
  · rw [inList_set ss h.modes j hj ⟨ss[j].first, ss[j].mode, ss[j].words.set q (x - 2 ^ k)⟩ rfl]
    simp only [hm, h0, false_and, ne_eq, not_false_eq_true, true_and, false_or]
  · obtain ⟨c, e1, e2, _⟩ := total_parts ss j hj
    rw [e1, e2, segCount_run _ (by rw [hm]; exact h0), segCount_run _ (by rw [hm]; exact h0)]
    have := drop_pc h j hj m hm h0 row hr off q k x ho hq hk hqn hx hb
    show c + pcs (ss[j].words.set q (x - 2 ^ k)) + 1 = c + pcs ss[j].words
    omega

theorem drop_last_pure {ss : List Seg} (h : Shape ss) (j : Nat) (hj : j < ss.length) (m : Nat) (hm : ss[j].mode = m) (h0 : m ≠ 0) (row : Nat) (hr : row < 4294967296) (off q k x : Nat)
    (ho : off = offs row ss[j].first) (hq : q = off / 64) (hk : k = off % 64) (hqn : q < ss[j].words.length) (hx : gw ss[j].words q = x) (hb : x.testBit k = true) (hleft : (ss[j].words.set q (x - 2 ^ k)).any (fun x => decide (x ≠ 0)) = false) :
    Shape (ss.eraseIdx j) ∧
    (∀ r md, r < 4294967296 → (inRuns (ss.eraseIdx j) r md ↔ inRuns ss r md ∧ ¬ (r = row ∧ md = m))) ∧
    (∀ r md, inList (ss.eraseIdx j) r md ↔ inList ss r md) ∧
    total (ss.eraseIdx j) + 1 = total ss := by
  have hs := h.ok _ (List.getElem_mem hj)
  refine ⟨h.erase j, fun r md hr' => ?_, fun r md => ?_, ?_⟩
  · rw [inRuns_erase ss h.modes j hj]
    by_cases hmd : md = m
    · subst hmd
      rw [inRuns_at h j hj md hm h0]
      simp only [hm, ne_eq, not_true_eq_false, false_and, and_true, false_iff, not_and, Decidable.not_not]
      intro a
      have h1 := inBits_none (o := offs r ss[j].first) hleft
      have h2 := (inBits_sub hqn hx (by omega) hb (offs r ss[j].first)).2
      have e1 : 64 * q + k = offs row ss[j].first := by omega
      rw [e1] at h2
      by_cases e : offs r ss[j].first = offs row ss[j].first
      · exact offs_inj hr' hr hs.first e
      · rw [h2 ⟨a, e⟩] at h1
        exact absurd h1 (by simp)
    · simp only [hm, hmd, ne_eq, not_false_eq_true, true_and, and_false, and_true]
  · rw [inList_erase ss h.modes j hj]
    simp only [hm, h0, ne_eq, not_false_eq_true, true_and]
  · obtain ⟨c, e1, _, e3⟩ := total_parts ss j hj
    rw [e1, e3, segCount_run _ (by rw [hm]; exact h0)]
    have h1 := drop_pc h j hj m hm h0 row hr off q k x ho hq hk hqn hx hb
    rw [pcs_none hleft] at h1
    omega
theorem drop_list1_pure {ss : List Seg} (h : Shape ss) (j : Nat) (hj : j < ss.length) (hm : ss[j].mode = 0) (row m : Nat) (hr : row < 4294967296) (hn : ss[j].words.length = 1) (hin : lw row m ∈ ss[j].words) :
    Shape (ss.eraseIdx j) ∧ (∀ r md, inRuns (ss.eraseIdx j) r md ↔ inRuns ss r md) ∧
    (∀ r md, r < 4294967296 → (inList (ss.eraseIdx j) r md ↔ inList ss r md ∧ ¬ (r = row ∧ md = m))) ∧ total (ss.eraseIdx j) + 1 = total ss := by
  refine ⟨h.erase j, fun r md => ?_, fun r md hr' => ?_, ?_⟩
  · rw [inRuns_erase ss h.modes j hj, hm]
    constructor
    · exact fun a => a.2
    · intro a
      exact ⟨(inRuns_ne a), a⟩
  · rw [inList_erase ss h.modes j hj, hm, inList_at h j hj hm]
    simp only [ne_eq, not_true_eq_false, false_and, false_iff]
    rintro ⟨a, b⟩
    refine b ?_
    obtain ⟨y, hy⟩ := List.length_eq_one_iff.1 hn
    rw [hy] at a hin
    have e : lw r md = lw row m := by rw [List.mem_singleton.1 a, List.mem_singleton.1 hin]
    exact lw_inj hr' hr e
  · obtain ⟨c, e1, _, e3⟩ := total_parts ss j hj
    rw [e1, e3, segCount_list _ hm, hn]

theorem drop_list_pure {ss : List Seg} (h : Shape ss) (j : Nat) (hj : j < ss.length) (hm : ss[j].mode = 0) (row m : Nat) (hr : row < 4294967296) (kk : Nat) (hk : kk < ss[j].words.length) (hn : ss[j].words.length ≠ 1) (hin : gw ss[j].words kk = lw row m) :
    Shape (ss.set j ⟨0, 0, ss[j].words.eraseIdx kk⟩) ∧ (∀ r md, inRuns (ss.set j ⟨0, 0, ss[j].words.eraseIdx kk⟩) r md ↔ inRuns ss r md) ∧
    (∀ r md, r < 4294967296 → (inList (ss.set j ⟨0, 0, ss[j].words.eraseIdx kk⟩) r md ↔ inList ss r md ∧ ¬ (r = row ∧ md = m))) ∧ total (ss.set j ⟨0, 0, ss[j].words.eraseIdx kk⟩) + 1 = total ss := by
  have hs := h.ok _ (List.getElem_mem hj)
  obtain ⟨l1, l2, l3, l4⟩ := h.lst _ (List.getElem_mem hj) hm
  have hlen : (ss[j].words.eraseIdx kk).length = ss[j].words.length - 1 := by rw [List.length_eraseIdx]; simp [hk]
  have hsub : ∀ y, y ∈ ss[j].words.eraseIdx kk → y ∈ ss[j].words := fun y hy => List.mem_of_mem_eraseIdx hy
  refine ⟨h.set j hj _ hm.symm ⟨by show 0 < 4294967296; omega, by show 0 < 32; omega, ?_, fun y hy => hs.word y (hsub y hy)⟩ (fun e => absurd rfl e) (fun _ => ⟨rfl, ?_, ?_, fun y hy => l4 y (hsub y hy)⟩), fun r md => ?_, fun r md hr' => ?_, ?_⟩
  · show 1 ≤ (ss[j].words.eraseIdx kk).length
    omega
  · exact List.Nodup.sublist (List.eraseIdx_sublist _ _) l2
  · show (ss[j].words.eraseIdx kk).length ≤ 16
    omega
  · rw [inRuns_set ss h.modes j hj _ hm.symm]
    constructor
    · rintro (⟨e, e2, _⟩ | ⟨_, a⟩)
      · exact absurd e e2
      · exact a
    · intro a
      exact .inr ⟨(inRuns_ne a), a⟩
  · rw [inList_set ss h.modes j hj _ hm.symm, inList_at h j hj hm]
    simp only [true_and, ne_eq, not_true_eq_false, false_and, or_false]
    rw [gw_of_lt hk] at hin
    rw [List.mem_eraseIdx_iff_getElem]
    have hnd := List.pairwise_iff_getElem.1 l2
    constructor
    · rintro ⟨i, hi, hik, e⟩
      refine ⟨e ▸ List.getElem_mem hi, fun ⟨e1, e2⟩ => ?_⟩
      subst e1 e2
      rw [← hin] at e
      rcases Nat.lt_or_gt_of_ne hik with h1 | h1
      · exact hnd i kk hi hk h1 e
      · exact hnd kk i hk hi h1 e.symm
    · rintro ⟨a, b⟩
      obtain ⟨i, hi, e⟩ := List.getElem_of_mem a
      refine ⟨i, hi, fun e2 => b ?_, e⟩
      subst e2
      rw [hin] at e
      obtain ⟨g1, g2⟩ := lw_inj hr hr' e
      exact ⟨g1.symm, g2.symm⟩
  · obtain ⟨c, e1, e2, _⟩ := total_parts ss j hj
    rw [e1, e2, segCount_list _ hm, segCount_list _ rfl]
    show c + (ss[j].words.eraseIdx kk).length + 1 = c + ss[j].words.length
    omega
end Go.Proofs.Qxb6605852a
