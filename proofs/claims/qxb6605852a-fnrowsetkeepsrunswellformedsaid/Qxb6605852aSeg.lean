import Derived.Test.Qxb6605852aBits
namespace Go.Proofs.Qxb6605852a

def lw (row m : Nat) : Nat := row + m * 4294967296
def hd (first m n : Nat) : Nat := first + m * 4294967296 + n * 137438953472

/-- A run, or the list (mode 0). -/
structure Seg where
  first : Nat
  mode : Nat
  words : List Nat

def Seg.head (s : Seg) : Nat := hd s.first s.mode s.words.length
def Seg.flat (s : Seg) : List Nat := s.head :: s.words

def flat : List Seg → List Nat
  | [] => []
  | s :: ss => s.flat ++ flat ss

theorem flat_append (a b : List Seg) : flat (a ++ b) = flat a ++ flat b := by
  induction a with
  | nil => rfl
  | cons s a ih => simp [flat, ih]

theorem flat_cons (s : Seg) (ss : List Seg) : flat (s :: ss) = s.flat ++ flat ss := rfl
theorem Seg.flat_length (s : Seg) : s.flat.length = s.words.length + 1 := by simp [Seg.flat]

/-- Where the j-th run's head lies. -/
def hix (ss : List Seg) (j : Nat) : Nat := (flat (ss.take j)).length

theorem hix_zero (ss : List Seg) : hix ss 0 = 0 := by simp [hix, flat]

theorem flat_split (ss : List Seg) (j : Nat) (h : j < ss.length) : flat ss = flat (ss.take j) ++ (ss[j].flat ++ flat (ss.drop (j + 1))) := by
  conv => lhs; rw [← List.take_append_drop j ss, flat_append, List.drop_eq_getElem_cons h]
  rfl

theorem hix_succ (ss : List Seg) (j : Nat) (h : j < ss.length) : hix ss (j + 1) = hix ss j + (ss[j].words.length + 1) := by
  unfold hix
  rw [List.take_succ_eq_append_getElem h, flat_append]
  simp [flat, Seg.flat_length]

theorem hix_end (ss : List Seg) : hix ss ss.length = (flat ss).length := by simp [hix]

theorem hix_le (ss : List Seg) (j : Nat) (h : j < ss.length) : hix ss j + (ss[j].words.length + 1) ≤ (flat ss).length := by
  rw [flat_split ss j h]
  simp [hix, Seg.flat_length]

theorem gw_cons_zero (x : Nat) (l : List Nat) : gw (x :: l) 0 = x := rfl
theorem gw_cons_succ (x : Nat) (l : List Nat) (t : Nat) : gw (x :: l) (t + 1) = gw l t := rfl
theorem seg_flat (s : Seg) : s.flat = s.head :: s.words := rfl

theorem gw_mid (A S D : List Nat) (t : Nat) (h : t < S.length) : gw (A ++ (S ++ D)) (A.length + t) = gw S t := by
  rw [gw_append_right (by omega), show A.length + t - A.length = t by omega, gw_append_left h]

theorem gw_head (ss : List Seg) (j : Nat) (h : j < ss.length) : gw (flat ss) (hix ss j) = ss[j].head := by
  have h1 := gw_mid (flat (ss.take j)) ss[j].flat (flat (ss.drop (j + 1))) 0 (by rw [Seg.flat_length]; omega)
  rw [← flat_split ss j h, seg_flat, gw_cons_zero] at h1
  exact h1

theorem gw_word (ss : List Seg) (j t : Nat) (h : j < ss.length) (ht : t < ss[j].words.length) : gw (flat ss) (hix ss j + 1 + t) = gw ss[j].words t := by
  have h1 := gw_mid (flat (ss.take j)) ss[j].flat (flat (ss.drop (j + 1))) (t + 1) (by rw [Seg.flat_length]; omega)
  rw [← flat_split ss j h, seg_flat, gw_cons_succ] at h1
  rw [← h1]
  congr 1
  unfold hix
  omega

structure SegOk (s : Seg) : Prop where
  first : s.first < 4294967296
  mode : s.mode < 32
  pos : 1 ≤ s.words.length
  word : ∀ x ∈ s.words, x < 18446744073709551616

structure Good (ss : List Seg) : Prop where
  each : ∀ s ∈ ss, SegOk s
  len : (flat ss).length ≤ 100000

theorem Good.at {ss : List Seg} (h : Good ss) (j : Nat) (hj : j < ss.length) : SegOk ss[j] := h.each _ (List.getElem_mem hj)

theorem Good.small {ss : List Seg} (h : Good ss) (j : Nat) (hj : j < ss.length) : ss[j].words.length ≤ 100000 := by
  have := hix_le ss j hj
  have := h.len
  omega

theorem head_first (s : Seg) (h : SegOk s) : s.head % 4294967296 = s.first := by
  have := h.first; have := h.mode
  unfold Seg.head hd; omega
theorem head_mode (s : Seg) (h : SegOk s) : s.head / 4294967296 % 32 = s.mode := by
  have := h.first; have := h.mode
  unfold Seg.head hd; omega
theorem head_len (s : Seg) (h : SegOk s) : s.head / 137438953472 = s.words.length := by
  have := h.first; have := h.mode
  unfold Seg.head hd; omega
theorem head_lt (s : Seg) (h : SegOk s) (hl : s.words.length ≤ 100000) : s.head < 18446744073709551616 := by
  have := h.first; have := h.mode
  unfold Seg.head hd; omega

theorem flat_lt {ss : List Seg} (h : Good ss) : ∀ x ∈ flat ss, x < 18446744073709551616 := by
  intro x hx
  have key : ∀ (l : List Seg), (∀ s ∈ l, SegOk s ∧ s.words.length ≤ 100000) → ∀ x ∈ flat l, x < 18446744073709551616 := by
    intro l
    induction l with
    | nil => intro _ x hx; simp [flat] at hx
    | cons s l ih =>
      intro hl x hx
      rw [flat_cons, List.mem_append] at hx
      obtain ⟨h1, h2⟩ := hl s List.mem_cons_self
      rcases hx with hx | hx
      · rcases List.mem_cons.1 hx with rfl | hx
        · exact head_lt s h1 h2
        · exact h1.word x hx
      · exact ih (fun t ht => hl t (List.mem_cons_of_mem _ ht)) x hx
  refine key ss (fun s hs => ⟨h.each s hs, ?_⟩) x hx
  obtain ⟨j, hj, rfl⟩ := List.getElem_of_mem hs
  exact h.small j hj
end Go.Proofs.Qxb6605852a
