import Derived.Test.Qxb6605852aInsAny
namespace Go.Proofs.Qxb6605852a
set_option linter.unusedVariables false

theorem flat_parts (ss : List Seg) (j : Nat) (h : j < ss.length) : ∃ A D, A.length = hix ss j ∧ flat ss = A ++ (ss[j].head :: ss[j].words) ++ D ∧ (∀ s', flat (ss.set j s') = A ++ (s'.head :: s'.words) ++ D) ∧ flat (ss.eraseIdx j) = A ++ D := by
  refine ⟨flat (ss.take j), flat (ss.drop (j + 1)), rfl, ?_, fun s' => ?_, ?_⟩
  · rw [flat_split ss j h, seg_flat, List.append_assoc]
  · rw [List.set_eq_take_append_cons_drop, if_pos h, flat_append, flat_cons, seg_flat, List.append_assoc]
  · rw [List.eraseIdx_eq_take_drop_succ, flat_append]

theorem set_mid (A D : List Nat) (H : Nat) (ws : List Nat) (q y P : Nat) (hP : P = A.length + 1 + q) (hq : q < ws.length) : (A ++ (H :: ws) ++ D).set P y = A ++ (H :: ws.set q y) ++ D := by
  subst hP
  rw [List.append_assoc, List.set_append, if_neg (by omega)]
  rw [show A.length + 1 + q - A.length = q + 1 by omega, List.cons_append, List.set_cons_succ, List.set_append, if_pos hq]
  simp

theorem set_head (A D : List Nat) (H : Nat) (ws : List Nat) (y : Nat) : (A ++ (H :: ws) ++ D).set A.length y = A ++ (y :: ws) ++ D := by
  rw [List.append_assoc, List.set_append, if_neg (by omega), Nat.sub_self, List.cons_append, List.set_cons_zero]
  simp

theorem flat_set_word (ss : List Seg) (j : Nat) (h : j < ss.length) (q y P : Nat) (hP : P = hix ss j + 1 + q) (hq : q < ss[j].words.length) :
    (flat ss).set P y = flat (ss.set j ⟨ss[j].first, ss[j].mode, ss[j].words.set q y⟩) := by
  obtain ⟨A, D, hA, e1, e2, _⟩ := flat_parts ss j h
  rw [e1, e2, set_mid A D _ _ q y P (by omega) hq]
  simp [Seg.head]

theorem flat_erase (ss : List Seg) (j : Nat) (h : j < ss.length) (n I : Nat) (hn : ss[j].words.length = n) (hI : hix ss j = I) : (flat ss).take I ++ (flat ss).drop (I + 1 + n) = flat (ss.eraseIdx j) := by
  obtain ⟨A, D, hA, e1, _, e3⟩ := flat_parts ss j h
  rw [e3, e1]
  have h1 : (A ++ (ss[j].head :: ss[j].words) ++ D).take I = A := by
    rw [List.append_assoc, List.take_append, List.take_of_length_le (by omega), show I - A.length = 0 by omega]
    simp
  have h2 : (A ++ (ss[j].head :: ss[j].words) ++ D).drop (I + 1 + n) = D := by
    rw [List.drop_append, List.drop_of_length_le (by simp; omega), show I + 1 + n - (A ++ ss[j].head :: ss[j].words).length = 0 by simp; omega]
    simp
  rw [h1, h2]

theorem flat_erase_set (ss : List Seg) (j : Nat) (h : j < ss.length) (n I P y : Nat) (hn : ss[j].words.length = n) (hI : hix ss j = I) (h1 : I < P) (h2 : P < I + 1 + n) : ((flat ss).set P y).take I ++ ((flat ss).set P y).drop (I + 1 + n) = flat (ss.eraseIdx j) := by
  rw [← flat_erase ss j h n I hn hI, List.take_set_of_le (by omega), List.drop_set_of_lt (by omega)]

theorem ins_after (A D : List Nat) (H : Nat) (ws : List Nat) (T k : Nat) (hT : T = A.length + 1 + ws.length) : ins (A ++ (H :: ws) ++ D) T k = A ++ (H :: (ws ++ List.replicate k 0)) ++ D := by
  unfold ins
  have h1 : (A ++ (H :: ws) ++ D).take T = A ++ (H :: ws) := by
    rw [List.take_append, List.take_of_length_le (by simp; omega), show T - (A ++ H :: ws).length = 0 by simp; omega]
    simp
  have h2 : (A ++ (H :: ws) ++ D).drop T = D := by
    rw [List.drop_append, List.drop_of_length_le (by simp; omega), show T - (A ++ H :: ws).length = 0 by simp; omega]
    simp
  rw [h1, h2]
  simp

theorem ins_before (A D : List Nat) (H : Nat) (ws : List Nat) (T k : Nat) (hT : T = A.length + 1) : ins (A ++ (H :: ws) ++ D) T k = A ++ (H :: (List.replicate k 0 ++ ws)) ++ D := by
  unfold ins
  have e : A ++ (H :: ws) ++ D = (A ++ [H]) ++ (ws ++ D) := by simp
  rw [e]
  have h1 : ((A ++ [H]) ++ (ws ++ D)).take T = A ++ [H] := by
    rw [List.take_append, List.take_of_length_le (by simp; omega), show T - (A ++ [H]).length = 0 by simp; omega]
    simp
  have h2 : ((A ++ [H]) ++ (ws ++ D)).drop T = ws ++ D := by
    rw [List.drop_append, List.drop_of_length_le (by simp; omega), show T - (A ++ [H]).length = 0 by simp; omega]
    simp
  rw [h1, h2]
  simp

theorem flat_grow_after (ss : List Seg) (j : Nat) (h : j < ss.length) (n I T k P q y first m : Nat) (hn : ss[j].words.length = n) (hI : hix ss j = I) (hT : T = I + 1 + n) (hP : P = I + 1 + q) (hq : q < n + k) :
    ((ins (flat ss) T k).set I (hd first m (n + k))).set P y = flat (ss.set j ⟨first, m, (ss[j].words ++ List.replicate k 0).set q y⟩) := by
  obtain ⟨A, D, hA, e1, e2, _⟩ := flat_parts ss j h
  rw [e1, e2, ins_after A D _ _ T k (by omega), show I = A.length by omega, set_head, set_mid A D _ _ q y P (by omega) (by simp; omega)]
  simp [Seg.head, hn]

theorem flat_grow_before (ss : List Seg) (j : Nat) (h : j < ss.length) (n I T k P q y first m : Nat) (hn : ss[j].words.length = n) (hI : hix ss j = I) (hT : T = I + 1) (hP : P = I + 1 + q) (hq : q < n + k) :
    ((ins (flat ss) T k).set I (hd first m (n + k))).set P y = flat (ss.set j ⟨first, m, (List.replicate k 0 ++ ss[j].words).set q y⟩) := by
  obtain ⟨A, D, hA, e1, e2, _⟩ := flat_parts ss j h
  rw [e1, e2, ins_before A D _ _ T k (by omega), show I = A.length by omega, set_head, set_mid A D _ _ q y P (by omega) (by simp; omega)]
  simp [Seg.head, hn, Nat.add_comm]

theorem flat_new (ss : List Seg) (L y first m : Nat) (hL : (flat ss).length = L) : ((ins (flat ss) L 2).set L (hd first m 1)).set (L + 1) y = flat (ss ++ [⟨first, m, [y]⟩]) := by
  rw [flat_append]
  unfold ins
  rw [List.take_of_length_le (by omega), List.drop_of_length_le (by omega), List.append_nil]
  rw [List.set_append, if_neg (by omega), List.set_append, if_neg (by omega), hL, show L - L = 0 by omega, show L + 1 - L = 1 by omega]
  simp [flat, Seg.flat, Seg.head, List.replicate]

theorem flat_list_drop (ss : List Seg) (j : Nat) (h : j < ss.length) (n I kk : Nat) (hn : ss[j].words.length = n) (hI : hix ss j = I) (hk : kk < n) :
    (((flat ss).take (I + 1 + kk) ++ (flat ss).drop (I + 2 + kk)).set I (hd 0 0 (n - 1))) = flat (ss.set j ⟨0, 0, ss[j].words.eraseIdx kk⟩) := by
  obtain ⟨A, D, hA, e1, e2, _⟩ := flat_parts ss j h
  rw [e1, e2]
  have e3 : A ++ (ss[j].head :: ss[j].words) ++ D = (A ++ [ss[j].head]) ++ (ss[j].words ++ D) := by simp
  rw [e3]
  have h1 : ((A ++ [ss[j].head]) ++ (ss[j].words ++ D)).take (I + 1 + kk) = (A ++ [ss[j].head]) ++ ss[j].words.take kk := by
    rw [List.take_append, List.take_of_length_le (by simp; omega), show I + 1 + kk - (A ++ [ss[j].head]).length = kk by simp; omega, List.take_append, show kk - ss[j].words.length = 0 by omega]
    simp
  have h2 : ((A ++ [ss[j].head]) ++ (ss[j].words ++ D)).drop (I + 2 + kk) = ss[j].words.drop (kk + 1) ++ D := by
    rw [List.drop_append, List.drop_of_length_le (by simp; omega), show I + 2 + kk - (A ++ [ss[j].head]).length = kk + 1 by simp; omega, List.drop_append, show kk + 1 - ss[j].words.length = 0 by omega]
    simp
  rw [h1, h2]
  have e4 : A ++ [ss[j].head] ++ ss[j].words.take kk ++ (ss[j].words.drop (kk + 1) ++ D) = A ++ (ss[j].head :: (ss[j].words.take kk ++ ss[j].words.drop (kk + 1))) ++ D := by simp
  rw [e4, show I = A.length by omega, set_head, List.eraseIdx_eq_take_drop_succ]
  have e5 : (ss[j].words.take kk ++ ss[j].words.drop (kk + 1)).length = n - 1 := by simp; omega
  simp only [Seg.head, e5]
end Go.Proofs.Qxb6605852a
