import Derived.Test.Qxb6605852aIns
namespace Go.Proofs.Qxb6605852a
open Go.RowKit
set_option linter.unusedVariables false

theorem zeroAt_eq (k : Nat) : ∀ (zs : List Nat) (off : Nat), off + k ≤ zs.length → zeroAt zs off k = splice zs off (List.replicate k 0) := by
  induction k with
  | zero => intro zs off h; simp [zeroAt, splice]
  | succ k ih =>
    intro zs off h
    simp only [zeroAt]
    rw [ih _ _ (by simp; omega)]
    unfold splice
    rw [List.take_set, List.drop_set]
    rw [List.take_succ_eq_append_getElem (by omega), List.set_append]
    simp only [List.length_take, List.length_replicate, List.replicate_succ]
    rw [if_neg (by omega), show off - min off zs.length = 0 by omega]
    simp
    rw [if_pos (by omega), show off + 1 + k = off + (k + 1) by omega]

theorem splice_take (zs X : List Nat) (i k : Nat) (h : i + k + X.length ≤ zs.length) : (splice (splice zs (i + k) X) i (List.replicate k 0)).take (i + k + X.length) = zs.take i ++ (List.replicate k 0 ++ X) := by
  have e1 : (splice zs (i + k) X).take i = zs.take i := by
    unfold splice
    rw [List.take_append, List.take_take, List.length_take, show i - min (i + k) zs.length = 0 by omega, List.take_zero, List.append_nil]
    congr 1
    omega
  have e2 : (splice zs (i + k) X).drop (i + k) = X ++ zs.drop (i + k + X.length) := by
    unfold splice
    rw [List.drop_append, List.length_take, List.drop_of_length_le (by simp; omega), show i + k - min (i + k) zs.length = 0 by omega]
    simp
  rw [splice, List.length_replicate, e1, e2, List.take_append, List.length_take, List.take_of_length_le (by simp; omega)]
  congr 1
  rw [List.take_append, List.length_replicate, List.take_of_length_le (by simp; omega)]
  congr 1
  rw [List.take_append, List.take_of_length_le (by omega), show i + k + X.length - min i zs.length - k - X.length = 0 by omega]
  simp

theorem zs_length_room (zs X : List Nat) (i k : Nat) (h : i + k + X.length ≤ zs.length) : (zeroAt (splice zs (i + k) X) i k).length = zs.length := by
  have h1 : (splice zs (i + k) X).length = zs.length := length_splice _ _ _ (by omega)
  rw [zeroAt_eq _ _ _ (by omega), length_splice _ _ _ (by simp; omega), h1]

/-- The slice's block: its own, or a new one. -/
def SameOrNew (w : World) (v v' : Value) : Prop := ∀ b, v'.ownBlock = some b → v.ownBlock = some b ∨ w.heap.size ≤ b

/-- insertWords, at every slice of words. -/
theorem insert_any (v : Value) (ws : List Nat) (i k : Nat) (w : World) (h : Words w v ws) (hl : ws.length ≤ 100000) (hi : i ≤ ws.length) (hk1 : 1 ≤ k) (hk2 : k ≤ 2) :
    Calls Try.prog 33 #[v, .int .i64 i, .int .i64 k] w fun e w' => ∃ v', e = .returned v' ∧ Words w' v' (ins ws i k) ∧ w.grownBy w' v.ownBlock ∧ SameOrNew w v v' := by
  have hil := ins_length ws i k hi
  rcases h with ⟨rfl, rfl⟩ | ⟨g, zs, rfl, hR, hle, htk, hz, hz0⟩
  · obtain rfl : i = 0 := by simpa using hi
    refine (insert_nil k w hk1 hk2).mono ?_
    rintro e w' ⟨zs, rfl, hR, ht, h1, h2, hb⟩
    refine ⟨_, rfl, .inr ⟨w.heap.size, zs, ?_, hR, ?_, ?_, by omega, by omega⟩, ⟨hb.os, hb.tape, hb.output, hb.size, fun j hj _ => hb.block j hj⟩, ?_⟩
    · rw [hil]; simp
    · rw [hil]; simpa using h1
    · rw [hil]
      have : ins [] 0 k = List.replicate k 0 := by simp [ins]
      rw [this]
      simpa using ht
    · intro b hb'
      right
      simp [Value.ownBlock] at hb'
      omega
  · by_cases hroom : ws.length + k ≤ zs.length
    · refine (insert_room g i k (ws.length + k) ws.length zs w hl (by omega) hi hk1 hk2 rfl hroom hR).mono ?_
      rintro e w' ⟨rfl, hR', hg⟩
      have hX : ((zs.take ws.length).drop i).length = ws.length - i := by simp; omega
      have hlen := zs_length_room zs ((zs.take ws.length).drop i) i k (by omega)
      refine ⟨_, rfl, .inr ⟨g, _, ?_, hR', ?_, ?_, by omega, by omega⟩, hg, ?_⟩
      · rw [hil, hlen]
      · rw [hil, hlen]; exact hroom
      · rw [hil, zeroAt_eq _ _ _ (by rw [length_splice _ _ _ (by omega)]; omega)]
        have h3 := splice_take zs ((zs.take ws.length).drop i) i k (by omega)
        rw [show ws.length + k = i + k + ((zs.take ws.length).drop i).length by omega, h3, htk]
        unfold ins
        congr 1
        conv => rhs; rw [← htk]
        rw [List.take_take, show min i ws.length = i by omega]
      · intro b hb'
        left
        simpa [Value.ownBlock] using hb'
    · refine (insert_grow g i k (ws.length + k) zs.length ws w hR.lt hl hle hi hk1 hk2 rfl (by omega) (fun j hj => ?_)).mono ?_
      · rw [hR.cell j (by omega)]
        conv => rhs; rw [← htk]
        rw [gw_take hj]
      · rintro e w' ⟨zs', rfl, hR', ht, h1, h2, hb⟩
        refine ⟨_, rfl, .inr ⟨w.heap.size, zs', ?_, hR', ?_, ?_, by omega, by omega⟩, ⟨hb.os, hb.tape, hb.output, hb.size, fun j hj _ => hb.block j hj⟩, ?_⟩
        · rw [hil]
        · rw [hil]; exact h1
        · rw [hil]; exact ht
        · intro b hb'
          right
          simp [Value.ownBlock] at hb'
          omega
end Go.Proofs.Qxb6605852a
