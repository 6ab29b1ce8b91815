import Derived.Test.Qxb6605852aDropP
namespace Go.Proofs.Qxb6605852a
set_option linter.unusedVariables false
set_option linter.unusedSectionVars false
set_option linter.unusedSimpArgs false

/-- Row row is held in m besides, in a run. -/
def AddedRun (ss ss' : List Seg) (row m : Nat) : Prop :=
  Shape ss' ∧ (∀ r md, r < 4294967296 → (inRuns ss' r md ↔ inRuns ss r md ∨ (r = row ∧ md = m))) ∧ (∀ r md, inList ss' r md ↔ inList ss r md) ∧ total ss' = total ss + 1
/-- .. in the list. -/
def AddedList (ss ss' : List Seg) (row m : Nat) : Prop :=
  Shape ss' ∧ (∀ r md, inRuns ss' r md ↔ inRuns ss r md) ∧ (∀ r md, r < 4294967296 → (inList ss' r md ↔ inList ss r md ∨ (r = row ∧ md = m))) ∧ total ss' = total ss + 1

theorem add_run_set {ss : List Seg} (h : Shape ss) (j : Nat) (hj : j < ss.length) (m : Nat) (hm : ss[j].mode = m) (h0 : m ≠ 0) (row : Nat) (s' : Seg) (he : s'.mode = m) (ok : SegOk s')
    (hb : ∀ r, r < 4294967296 → (inBits s'.words (offs r s'.first) = true ↔ inBits ss[j].words (offs r ss[j].first) = true ∨ r = row)) (hr : row < 4294967296) (hp : pcs s'.words = pcs ss[j].words + 1) : AddedRun ss (ss.set j s') row m := by
  have he' : s'.mode = ss[j].mode := by omega
  refine ⟨h.set j hj s' he' ok (fun _ => inBits_any ((hb row hr).2 (.inr rfl))) (fun e => absurd (he ▸ e : m = 0) h0), fun r md hr' => ?_, fun r md => ?_, ?_⟩
  · rw [inRuns_set ss h.modes j hj s' he', he]
    by_cases hmd : md = m
    · subst hmd
      rw [inRuns_at h j hj md hm h0]
      simp only [h0, ne_eq, not_false_eq_true, true_and, not_true_eq_false, false_and, or_false, and_true]
      exact hb r hr'
    · simp only [hmd, false_and, ne_eq, not_false_eq_true, true_and, false_or, and_false, or_false]
  · rw [inList_set ss h.modes j hj s' he', he]
    simp only [h0, false_and, ne_eq, not_false_eq_true, true_and, false_or]
  · obtain ⟨c, e1, e2, _⟩ := total_parts ss j hj
    rw [e1, e2, segCount_run s' (by rw [he]; exact h0), segCount_run ss[j] (by rw [hm]; exact h0), hp]
    omega

theorem add_in_pure {ss : List Seg} (h : Shape ss) (j : Nat) (hj : j < ss.length) (m : Nat) (hm : ss[j].mode = m) (h0 : m ≠ 0) (row : Nat) (hr : row < 4294967296) (off q k x : Nat)
    (ho : off = offs row ss[j].first) (hq : q = off / 64) (hk : k = off % 64) (hqn : q < ss[j].words.length) (hx : gw ss[j].words q = x) (hb : x.testBit k = false) :
    AddedRun ss (ss.set j ⟨ss[j].first, ss[j].mode, ss[j].words.set q (x + 2 ^ k)⟩) row m := by
  have hs := h.ok _ (List.getElem_mem hj)
  have hx64 := hs.word x (hx ▸ gw_in hqn)
  refine add_run_set h j hj m hm h0 row _ hm ⟨hs.first, hs.mode, by simpa using hs.pos, fun y hy => ?_⟩ (fun r hr' => ?_) hr ?_
  · rcases List.mem_or_eq_of_mem_set hy with hy | rfl
    · exact hs.word y hy
    · rw [← or_pow x k hb]
      exact Nat.or_lt_two_pow (n := 64) hx64 (pow_lt64 k (by omega))
  · show inBits (ss[j].words.set q (x + 2 ^ k)) (offs r ss[j].first) = true ↔ _
    rw [inBits_add hqn hx (by omega) hb, show 64 * q + k = offs row ss[j].first by omega]
    constructor
    · rintro (a | a)
      · exact .inl a
      · exact .inr (offs_inj hr' hr hs.first a)
    · rintro (a | a)
      · exact .inl a
      · exact .inr (by rw [a])
  · show pcs (ss[j].words.set q (x + 2 ^ k)) = _
    have h1 := pcs_set ss[j].words q (x + 2 ^ k) hqn
    rw [hx, pc_add x k (by omega) hb] at h1
    omega

theorem zero_bit (k : Nat) : (0 : Nat).testBit k = false := by simp

theorem add_after_pure {ss : List Seg} (h : Shape ss) (j : Nat) (hj : j < ss.length) (m : Nat) (hm : ss[j].mode = m) (h0 : m ≠ 0) (row : Nat) (hr : row < 4294967296) (off q k n A : Nat)
    (ho : off = offs row ss[j].first) (hq : q = off / 64) (hk : k = off % 64) (hn : ss[j].words.length = n) (hqn : n ≤ q) (hA : q < n + A) :
    AddedRun ss (ss.set j ⟨ss[j].first, m, (ss[j].words ++ List.replicate A 0).set q (2 ^ k)⟩) row m := by
  have hs := h.ok _ (List.getElem_mem hj)
  have hl : q < (ss[j].words ++ List.replicate A 0).length := by simp; omega
  have hz : gw (ss[j].words ++ List.replicate A 0) q = 0 := by rw [gw_append_right (by omega), gw_replicate]
  refine add_run_set h j hj m hm h0 row _ rfl ⟨hs.first, by have := hs.mode; rw [hm] at this; exact this, by simp; omega, fun y hy => ?_⟩ (fun r hr' => ?_) hr ?_
  · rcases List.mem_or_eq_of_mem_set hy with hy | rfl
    · rcases List.mem_append.1 hy with hy | hy
      · exact hs.word y hy
      · rw [(List.mem_replicate.1 hy).2]; omega
    · exact pow_lt64 k (by omega)
  · show inBits ((ss[j].words ++ List.replicate A 0).set q (2 ^ k)) (offs r ss[j].first) = true ↔ _
    have h1 := inBits_add hl hz (k := k) (by omega) (zero_bit k) (offs r ss[j].first)
    rw [Nat.zero_add] at h1
    rw [h1, inBits_after, show 64 * q + k = offs row ss[j].first by omega]
    constructor
    · rintro (a | a)
      · exact .inl a
      · exact .inr (offs_inj hr' hr hs.first a)
    · rintro (a | a)
      · exact .inl a
      · exact .inr (by rw [a])
  · show pcs ((ss[j].words ++ List.replicate A 0).set q (2 ^ k)) = _
    have h1 := pcs_set (ss[j].words ++ List.replicate A 0) q (2 ^ k) hl
    rw [hz, pc_zero, pc_pow k (by omega), pcs_append, pcs_zeros] at h1
    omega

theorem offs_shift {r first f2 A : Nat} (hf : first < 4294967296) (hr : r < 4294967296) (hA : A ≤ 2) (hf2 : f2 = (first + 4294967296 - A * 64) % 4294967296) : offs r f2 = (offs r first + 64 * A) % 4294967296 := by
  unfold offs; omega

theorem add_before_pure {ss : List Seg} (h : Shape ss) (j : Nat) (hj : j < ss.length) (m : Nat) (hm : ss[j].mode = m) (h0 : m ≠ 0) (row : Nat) (hr : row < 4294967296) (first f2 off2 q k n A : Nat) (hfi : ss[j].first = first)
    (hf2 : f2 = (first + 4294967296 - A * 64) % 4294967296) (ho : off2 = offs row f2) (hq : q = off2 / 64) (hk : k = off2 % 64) (hn : ss[j].words.length = n) (hn1 : n ≤ 100000) (hA2 : A ≤ 2) (hA : q < A) :
    AddedRun ss (ss.set j ⟨f2, m, (List.replicate A 0 ++ ss[j].words).set q (2 ^ k)⟩) row m := by
  have hs := h.ok _ (List.getElem_mem hj)
  have hf := hs.first
  rw [hfi] at hf
  have hl : q < (List.replicate A 0 ++ ss[j].words).length := by simp; omega
  have hz : gw (List.replicate A 0 ++ ss[j].words) q = 0 := by rw [gw_append_left (by simpa using hA), gw_replicate]
  refine add_run_set h j hj m hm h0 row _ rfl ⟨by show f2 < 4294967296; omega, by have := hs.mode; rw [hm] at this; exact this, by simp; omega, fun y hy => ?_⟩ (fun r hr' => ?_) hr ?_
  · rcases List.mem_or_eq_of_mem_set hy with hy | rfl
    · rcases List.mem_append.1 hy with hy | hy
      · rw [(List.mem_replicate.1 hy).2]; omega
      · exact hs.word y hy
    · exact pow_lt64 k (by omega)
  · show inBits ((List.replicate A 0 ++ ss[j].words).set q (2 ^ k)) (offs r f2) = true ↔ _
    have h1 := inBits_add hl hz (k := k) (by omega) (zero_bit k) (offs r f2)
    rw [Nat.zero_add] at h1
    rw [h1, inBits_before, show 64 * q + k = offs row f2 by omega, hfi]
    have hsh := offs_shift hf hr' hA2 hf2
    have hlt := offs_lt r first
    have hf232 : f2 < 4294967296 := by omega
    constructor
    · rintro (⟨a, b⟩ | a)
      · left
        rw [show offs r f2 - 64 * A = offs r first by omega] at b
        exact b
      · exact .inr (offs_inj hr' hr hf232 a)
    · rintro (a | a)
      · left
        have h2 : offs r first / 64 < n := by
          unfold inBits at a
          simp only [Bool.and_eq_true, decide_eq_true_eq] at a
          omega
        exact ⟨by omega, by rw [show offs r f2 - 64 * A = offs r first by omega]; exact a⟩
      · exact .inr (by rw [a])
  · show pcs ((List.replicate A 0 ++ ss[j].words).set q (2 ^ k)) = _
    have h1 := pcs_set (List.replicate A 0 ++ ss[j].words) q (2 ^ k) hl
    rw [hz, pc_zero, pc_pow k (by omega), pcs_append, pcs_zeros] at h1
    omega

theorem add_new_pure {ss : List Seg} (h : Shape ss) (m : Nat) (hv : okMode m) (h0 : m ≠ 0) (row : Nat) (hr : row < 4294967296) (hno : ∀ j (hj : j < ss.length), ss[j].mode ≠ m) :
    AddedRun ss (ss ++ [⟨row, m, [1]⟩]) row m := by
  refine ⟨h.append _ ⟨hr, okMode_lt hv, by simp, fun y hy => ?_⟩ hv (fun s hs => ?_) (fun _ => by show List.any [1] _ = true; decide) (fun e => absurd e h0), fun r md hr' => ?_, fun r md => ?_, ?_⟩
  · simp at hy; omega
  · obtain ⟨i, hi, rfl⟩ := mem_at hs
    exact hno i hi
  · rw [inRuns_append]
    show _ ∨ (md = m ∧ md ≠ 0 ∧ inBits [1] (offs r row) = true) ↔ _
    rw [inBits_one]
    constructor
    · rintro (a | ⟨a, _, c⟩)
      · exact .inl a
      · exact .inr ⟨offs_inj hr' hr hr (by rw [c, offs_self row hr]), a⟩
    · rintro (a | ⟨a, b⟩)
      · exact .inl a
      · subst a b
        exact .inr ⟨rfl, h0, offs_self r hr⟩
  · rw [inList_append]
    show _ ∨ (m = 0 ∧ _) ↔ _
    simp only [h0, false_and, or_false]
  · rw [total_append, segCount_run _ (by exact h0)]
    rfl

theorem keep_new_pure {ss : List Seg} (h : Shape ss) (m : Nat) (hv : okMode m) (h0 : m ≠ 0) (row : Nat) (hr : row < 4294967296) (hno : ∀ j (hj : j < ss.length), ss[j].mode ≠ 0) :
    AddedList ss (ss ++ [⟨0, 0, [lw row m]⟩]) row m := by
  refine ⟨h.append _ ⟨by show 0 < 4294967296; omega, by show 0 < 32; omega, by simp, fun y hy => ?_⟩ (.inl (by show 0 ≤ 9; omega)) (fun s hs => ?_) (fun e => absurd rfl e) (fun _ => ⟨rfl, by simp, by simp, fun y hy => ?_⟩), fun r md => ?_, fun r md hr' => ?_, ?_⟩
  · rw [List.mem_singleton.1 hy]; exact lw_lt hr hv
  · obtain ⟨i, hi, rfl⟩ := mem_at hs
    exact hno i hi
  · exact ⟨row, m, List.mem_singleton.1 hy, hr, h0, hv⟩
  · rw [inRuns_append]
    constructor
    · rintro (a | ⟨a, b, _⟩)
      · exact a
      · exact absurd a b
    · exact .inl
  · rw [inList_append]
    show _ ∨ (0 = 0 ∧ lw r md ∈ [lw row m]) ↔ _
    rw [List.mem_singleton]
    constructor
    · rintro (a | ⟨_, a⟩)
      · exact .inl a
      · exact .inr (lw_inj hr' hr a)
    · rintro (a | ⟨a, b⟩)
      · exact .inl a
      · exact .inr ⟨rfl, by rw [a, b]⟩
  · rw [total_append, segCount_list _ rfl]
    rfl

theorem keep_room_pure {ss : List Seg} (h : Shape ss) (j : Nat) (hj : j < ss.length) (hm : ss[j].mode = 0) (m : Nat) (hv : okMode m) (h0 : m ≠ 0) (row : Nat) (hr : row < 4294967296) (hlen : ss[j].words.length < 16) (hni : lw row m ∉ ss[j].words) :
    AddedList ss (ss.set j ⟨0, 0, ss[j].words ++ [lw row m]⟩) row m := by
  have hs := h.ok _ (List.getElem_mem hj)
  obtain ⟨l1, l2, l3, l4⟩ := h.lst _ (List.getElem_mem hj) hm
  refine ⟨h.set j hj _ hm.symm ⟨by show 0 < 4294967296; omega, by show 0 < 32; omega, by simp, fun y hy => ?_⟩ (fun e => absurd rfl e) (fun _ => ⟨rfl, ?_, by simp; omega, fun y hy => ?_⟩), fun r md => ?_, fun r md hr' => ?_, ?_⟩
  · rcases List.mem_append.1 hy with hy | hy
    · exact hs.word y hy
    · rw [List.mem_singleton.1 hy]; exact lw_lt hr hv
  · rw [List.nodup_append]
    refine ⟨l2, by simp, fun a ha b hb => ?_⟩
    rw [List.mem_singleton.1 hb]
    exact fun e => hni (e ▸ ha)
  · rcases List.mem_append.1 hy with hy | hy
    · exact l4 y hy
    · exact ⟨row, m, List.mem_singleton.1 hy, hr, h0, hv⟩
  · rw [inRuns_set ss h.modes j hj _ hm.symm]
    constructor
    · rintro (⟨e, e2, _⟩ | ⟨_, a⟩)
      · exact absurd e e2
      · exact a
    · intro a
      exact .inr ⟨inRuns_ne a, a⟩
  · rw [inList_set ss h.modes j hj _ hm.symm, inList_at h j hj hm]
    simp only [true_and, ne_eq, not_true_eq_false, false_and, or_false, List.mem_append, List.mem_singleton]
    constructor
    · rintro (a | a)
      · exact .inl a
      · exact .inr (lw_inj hr' hr a)
    · rintro (a | ⟨a, b⟩)
      · exact .inl a
      · exact .inr (by rw [a, b])
  · obtain ⟨c, e1, e2, _⟩ := total_parts ss j hj
    rw [e1, e2, segCount_list _ hm, segCount_list _ rfl]
    simp
    omega
end Go.Proofs.Qxb6605852a
