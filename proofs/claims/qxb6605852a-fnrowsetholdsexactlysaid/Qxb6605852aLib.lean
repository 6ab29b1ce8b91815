import Derived.Test.Qxb6605852aKeep3
import Derived.Test.Qxb6605852aAdd2
namespace Go.Proofs.Qxb6605852a
open Go.RowKit Go.Shelf Go.Sort
set_option linter.unusedVariables false

theorem oneCell_U : OneCell encU := fun x => rfl

theorem eqlAt_encU : EqlAt Try.prog 42 encU (fun x y => x == y) := by
  refine ⟨fun x y w => ?_, ?_⟩
  · have h := (EqlAt.int Try.prog 42 .u64).1 (x : Int) (y : Int) w
    unfold encU
    rw [h]
    have : ((x : Int) == (y : Int)) = (x == y) := by
      rw [Bool.eq_iff_iff]
      simp only [beq_iff_eq]
      omega
    show Result.ok (Value.bool ((x : Int) == (y : Int))) w = Result.ok (Value.bool (x == y)) w
    rw [this]
  · exact fun op a b x y w => GuardAt.int Try.prog 42 .u64 op a b (x : Int) (y : Int) w

theorem idx_spec (x : Nat) : ∀ (l : List Nat) (i : Nat), (Lib.idxByFrom (fun x y => x == y) x l i = -1 ∧ x ∉ l) ∨ ∃ k, k < l.length ∧ Lib.idxByFrom (fun x y => x == y) x l i = ((i + k : Nat) : Int) ∧ gw l k = x
  | [], i => .inl ⟨rfl, by simp⟩
  | y :: l, i => by
    simp only [Lib.idxByFrom]
    by_cases h : x = y
    · subst h
      exact .inr ⟨0, by simp, by simp, rfl⟩
    · rw [if_neg (by simpa using h)]
      rcases idx_spec x l (i + 1) with ⟨h1, h2⟩ | ⟨k, h1, h2, h3⟩
      · exact .inl ⟨h1, by simp [h, h2]⟩
      · exact .inr ⟨k + 1, by simpa using h1, by rw [h2]; omega, by rw [gw_cons_succ]; exact h3⟩

theorem index_any (g o n c x : Nat) (ws : List Nat) (w : World) (hn : ws.length = n) (hb : n ≤ 100000) (hc : ∀ j, j < n → w.cell? ⟨g, o + j, none⟩ = some (.int .u64 (gw ws j : Nat))) :
    Calls Try.prog 30 #[.slice (some ⟨g, o, none⟩) n c, .int .u64 x] w fun e w' => (∃ r, ((r = -1 ∧ x ∉ ws) ∨ ∃ k : Nat, k < n ∧ r = (k : Int) ∧ gw ws k = x) ∧ e = .returned (.int .i64 r)) ∧ w' = w := by
  have h := Try.slices_Index encU (fun x y => x == y) eqlAt_encU g o n c ws x w (by omega) (by omega) (fun j hj => by
    rw [hc j (by omega), gw_of_lt hj, getElem!_pos ws j hj]; rfl)
  refine h.mono ?_
  rintro e w' ⟨rfl, rfl⟩
  rw [List.take_of_length_le (by omega)]
  refine ⟨⟨_, ?_, rfl⟩, rfl⟩
  rcases idx_spec x ws 0 with ⟨h1, h2⟩ | ⟨k, h1, h2, h3⟩
  · exact .inl ⟨h1, h2⟩
  · exact .inr ⟨k, by omega, by unfold Lib.idxBy; rw [h2]; omega, h3⟩

set_option maxHeartbeats 400000 in
theorem nonzero_gives (x : Nat) (W : World) : Calls Try.prog 28 #[.int .u64 (x : Int)] W fun e w' => e = .returned (.bool (decide (x ≠ 0))) ∧ w' = W := by
  go_enter Try.func28, Try.ntmps28
  go_wp2
  go_ret
  refine ⟨ret_bool ?_, rfl⟩
  by_cases h : x = 0
  · simp [h]
  · have h2 : ¬ ((x : Int) = 0) := by omega
    simp [h]

theorem contains_any (g o n c : Nat) (ws : List Nat) (w : World) (hn : ws.length = n) (hb : n ≤ 100000) (hc : ∀ j, j < n → w.cell? ⟨g, o + j, none⟩ = some (.int .u64 (gw ws j : Nat))) :
    Calls Try.prog 27 #[.slice (some ⟨g, o, none⟩) n c, .func (.func 28) #[] #[]] w fun e w' => e = .returned (.bool (ws.any (fun x => decide (x ≠ 0)))) ∧ ∃ q, w' = w.drewN q := by
  have h := Try.slices_ContainsFunc encU (fun x => decide (x ≠ 0)) 28 #[] (fun args w => enters_of Try.func28 (by kernel_rfl) rfl args w) g o n c ws w
    (fun W x _ => (nonzero_gives x W).mono (fun e w' h => ⟨h.1, 0, h.2⟩)) (by omega) (by omega) (fun j hj => by
    rw [hc j (by omega), gw_of_lt hj, getElem!_pos ws j hj]; rfl)
  rw [List.take_of_length_le (by omega)] at h
  exact h

theorem delete_any (g n cap i j : Nat) (ws : List Nat) (w : World) (h : Words w (.slice (some ⟨g, 0, none⟩) n cap) ws) (hn : ws.length = n) (hij : i ≤ j) (hj : j ≤ n) :
    Calls Try.prog 29 #[.slice (some ⟨g, 0, none⟩) n cap, .int .i64 i, .int .i64 j] w fun e w' => e = .returned (.slice (some ⟨g, 0, none⟩) (n - (j - i)) cap) ∧ Words w' (.slice (some ⟨g, 0, none⟩) (n - (j - i)) cap) (ws.take i ++ ws.drop j) ∧ Foot (fun k => k = g) w w' := by
  rcases h with ⟨h, _⟩ | ⟨g', zs, he, hR, h1, h2, h3, h4⟩
  · simp at h
  simp only [Value.slice.injEq, Option.some.injEq, Addr.mk.injEq, and_true] at he
  obtain ⟨rfl, rfl, rfl⟩ := he
  have hH := hR.holds ws.length h1
  rw [h2] at hH
  have hc := Try.slices_Delete encU oneCell_U 0 (fun w => zero42 w) _ (by rfl) (by rfl) g 0 zs.length i j ws.toArray w hH (by simpa using h1) (by omega) hij (by simpa using hj)
  simp only [List.size_toArray] at hc
  refine hc.mono ?_
  rintro e w' ⟨rfl, q, rfl⟩
  have hlen : (ws.take i ++ ws.drop j ++ List.replicate (j - i) 0).length = ws.length := by simp; omega
  have hR' := (hR.ahead q).putRow (ws.take i ++ ws.drop j ++ List.replicate (j - i) 0) (by omega)
  refine ⟨rfl, .inr ⟨g, _, ?_, hR', ?_, ?_, ?_, ?_⟩, ⟨rfl, rfl, rfl, ?_, fun k hk hne => ?_⟩⟩
  · simp; omega
  · simp
  · have e1 : (ws.take i ++ ws.drop j).length = ws.length - (j - i) := by simp; omega
    rw [List.append_assoc (ws.take i ++ ws.drop j)]
    rw [List.take_append, List.take_of_length_le (by omega)]
    simp
  · simp; omega
  · simp; omega
  · simp [Sort.putRow, mapBlock, Sort.ahead]
  · exact heap_putRow_ne _ _ _ _ (fun e => hne e.symm)
end Go.Proofs.Qxb6605852a
