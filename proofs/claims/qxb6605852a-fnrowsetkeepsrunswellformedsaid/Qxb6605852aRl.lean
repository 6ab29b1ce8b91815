import Derived.Test.Qxb6605852aRunOf2
import Derived.Test.Qxb6605852aInsAny
namespace Go.Proofs.Qxb6605852a
open Go.RowKit Go.Shelf
set_option linter.unusedVariables false

/-- w' is w, but for the blocks of S and new ones. -/
structure Foot (S : Nat → Prop) (w w' : World) : Prop where
  os : w'.os = w.os
  tape : w'.tape = w.tape
  output : w'.output = w.output
  size : w.heap.size ≤ w'.heap.size
  block : ∀ k, k < w.heap.size → ¬ S k → w'.heap[k]? = w.heap[k]?

theorem Foot.refl (S : Nat → Prop) (w : World) : Foot S w w := ⟨rfl, rfl, rfl, Nat.le_refl _, fun _ _ _ => rfl⟩
theorem Foot.trans {S S' : Nat → Prop} {a b c : World} (h : Foot S a b) (k : Foot S' b c) (hs : ∀ i, i < a.heap.size → S' i → S i) : Foot S a c :=
  ⟨k.os.trans h.os, k.tape.trans h.tape, k.output.trans h.output, Nat.le_trans h.size k.size, fun i hi hn => (k.block i (Nat.lt_of_lt_of_le hi h.size) (fun e => hn (hs i hi e))).trans (h.block i hi hn)⟩
theorem Foot.mono {S S' : Nat → Prop} {a b : World} (h : Foot S a b) (hs : ∀ i, i < a.heap.size → S i → S' i) : Foot S' a b :=
  ⟨h.os, h.tape, h.output, h.size, fun i hi hn => h.block i hi (fun e => hn (hs i hi e))⟩
theorem Foot.of_below {S : Nat → Prop} {a b : World} (h : Below a.heap.size a b) : Foot S a b := ⟨h.os, h.tape, h.output, h.size, fun i hi _ => h.block i hi⟩
theorem Foot.of_grown {a b : World} {row : Option Nat} (h : a.grownBy b row) : Foot (fun k => row = some k) a b := ⟨h.os, h.tape, h.output, h.size, fun i hi hn => h.block i hi (fun e => hn e.symm)⟩
theorem Foot.setCell (w : World) (p : Addr) (v : Value) : Foot (fun k => k = p.block) w (w.setCell p v) :=
  ⟨rfl, rfl, rfl, by simp [World.setCell], fun i _ hn => heap_setCell_ne _ _ _ _ (fun e => hn e.symm)⟩
theorem Foot.drewN (S : Nat → Prop) (w : World) (n : Nat) : Foot S w (w.drewN n) := ⟨rfl, rfl, rfl, Nat.le_refl _, fun _ _ _ => rfl⟩
theorem Foot.below {S : Nat → Prop} {a b : World} (h : Foot S a b) {B : Nat} (hB : B ≤ a.heap.size) (hS : ∀ k, S k → B ≤ k) : Below B a b :=
  ⟨h.os, h.tape, h.output, h.size, fun i hi => h.block i (by omega) (fun e => by have := hS i e; omega)⟩

theorem words_kept {S : Nat → Prop} {w w' : World} {v : Value} {ws : List Nat} (h : Words w v ws) (hf : Foot S w w') (hn : ∀ b, v.ownBlock = some b → ¬ S b) : Words w' v ws := by
  rcases h with h | ⟨g, zs, rfl, hR, h⟩
  · exact .inl h
  · exact .inr ⟨g, zs, rfl, hR.of_block (hf.block g hR.lt (hn g rfl)), h⟩

theorem words_shape {w : World} {v : Value} {ws : List Nat} (h : Words w v ws) : ∃ p cap, v = .slice p ws.length cap ∧ ws.length ≤ cap := by
  rcases h with ⟨rfl, rfl⟩ | ⟨g, zs, rfl, hR, h1, _⟩
  · exact ⟨_, _, rfl, Nat.le_refl _⟩
  · exact ⟨_, _, rfl, h1⟩

theorem words_lt {w : World} {v : Value} {ws : List Nat} (h : Words w v ws) {b : Nat} (hb : v.ownBlock = some b) : b < w.heap.size := by
  rcases h with ⟨rfl, rfl⟩ | ⟨g, zs, rfl, hR, h1, _⟩
  · simp [Value.ownBlock] at hb
  · simp [Value.ownBlock] at hb; subst hb; exact hR.lt

theorem words_some {w : World} {v : Value} {ws : List Nat} (h : Words w v ws) (h0 : ws ≠ []) : ∃ g zs, v = .slice (some ⟨g, 0, none⟩) ws.length zs.length ∧ RowAt w g zs ∧ ws.length ≤ zs.length ∧ zs.take ws.length = ws ∧ zs.length ≤ 1000000 ∧ 0 < zs.length := by
  rcases h with ⟨rfl, h⟩ | h
  · exact absurd h h0
  · exact h

/-- The receiver's block. -/
def RlAt (w : World) (rb : Nat) (sv mv : Value) : Prop := w.heap[rb]? = some (.cells #[sv, mv] 52 (0, 0))

theorem RlAt.lt {w : World} {rb : Nat} {sv mv : Value} (h : RlAt w rb sv mv) : rb < w.heap.size := (Array.getElem?_eq_some_iff.1 h).1
theorem RlAt.c0 {w : World} {rb : Nat} {sv mv : Value} (h : RlAt w rb sv mv) : w.cell? ⟨rb, 0, none⟩ = some sv := by
  unfold RlAt at h; simp [World.cell?, h]
theorem RlAt.c1 {w : World} {rb : Nat} {sv mv : Value} (h : RlAt w rb sv mv) : w.cell? ⟨rb, 1, none⟩ = some mv := by
  unfold RlAt at h; simp [World.cell?, h]
theorem RlAt.fz {w : World} {rb : Nat} {sv mv : Value} (h : RlAt w rb sv mv) (i : Nat) : w.frozen? ⟨rb, i, none⟩ = false := by
  unfold RlAt at h; simp [World.frozen?, h]
theorem RlAt.kept {S : Nat → Prop} {w w' : World} {rb : Nat} {sv mv : Value} (h : RlAt w rb sv mv) (hf : Foot S w w') (hn : ¬ S rb) : RlAt w' rb sv mv :=
  (hf.block rb h.lt hn).trans h
theorem RlAt.set0 {w : World} {rb : Nat} {sv mv : Value} (h : RlAt w rb sv mv) (v : Value) : RlAt (w.setCell ⟨rb, 0, none⟩ v) rb v mv := by
  unfold RlAt at *
  simp only [World.setCell, Array.getElem?_modify, if_true, h, Option.map_some]
  rfl
theorem RlAt.set1 {w : World} {rb : Nat} {sv mv : Value} (h : RlAt w rb sv mv) (v : Value) : RlAt (w.setCell ⟨rb, 1, none⟩ v) rb sv v := by
  unfold RlAt at *
  simp only [World.setCell, Array.getElem?_modify, if_true, h, Option.map_some]
  rfl

theorem RlAt.ne {w : World} {rb g : Nat} {sv mv : Value} {zs : List Nat} (h : RlAt w rb sv mv) (hR : RowAt w g zs) : rb ≠ g := by
  rintro rfl
  unfold RlAt at h
  unfold RowAt at hR
  rw [h] at hR
  simp at hR

theorem RlAt.ne_words {w : World} {rb : Nat} {sv mv v : Value} {ws : List Nat} (h : RlAt w rb sv mv) (hW : Words w v ws) {b : Nat} (hb : v.ownBlock = some b) : rb ≠ b := by
  rcases hW with ⟨rfl, rfl⟩ | ⟨g, zs, rfl, hR, h1, _⟩
  · simp [Value.ownBlock] at hb
  · simp [Value.ownBlock] at hb; subst hb; exact h.ne hR

theorem reads_of {w : World} {rb : Nat} {sv mv : Value} {ss : List Seg} (h : RlAt w rb sv mv) (hW : Words w sv (flat ss)) : ∃ p g cap, sv = .slice p (flat ss).length cap ∧ Reads w.heap.size w rb p g cap ss := by
  rcases hW with ⟨rfl, hn⟩ | ⟨g, zs, rfl, hR, h1, h2, h3, h4⟩
  · refine ⟨none, 0, 0, by rw [hn]; rfl, h.lt, fun hne => ?_, by rw [hn]; exact h.c0, by rw [hn]; simp, fun i hi => by rw [hn] at hi; simp at hi⟩
    exfalso
    cases ss with
    | nil => exact hne rfl
    | cons s ss => simp [flat, Seg.flat] at hn
  · refine ⟨_, g, zs.length, rfl, h.lt, fun _ => ⟨hR.lt, rfl⟩, h.c0, h1, fun i hi => ?_⟩
    rw [hR.cell i (by omega)]
    conv => rhs; rw [← h2]
    rw [gw_take hi]

/-- A word of a known row is written. -/
theorem words_set {w : World} {g n cap : Nat} {ws : List Nat} (h : Words w (.slice (some ⟨g, 0, none⟩) n cap) ws) (i z : Nat) : Words (w.setCell ⟨g, i, none⟩ (.int .u64 (z : Nat))) (.slice (some ⟨g, 0, none⟩) n cap) (ws.set i z) := by
  rcases h with ⟨h, _⟩ | ⟨g', zs, he, hR, h1, h2, h3, h4⟩
  · simp at h
  · simp only [Value.slice.injEq, Option.some.injEq, Addr.mk.injEq, and_true] at he
    obtain ⟨rfl, rfl, rfl⟩ := he
    exact .inr ⟨g, zs.set i z, by simp, hR.setCell i z, by simpa using h1, by simp only [List.length_set]; rw [List.take_set, h2], by simpa using h3, by simpa using h4⟩

theorem drew_foot {S : Nat → Prop} {w w' : World} (h : Foot S w w') : Foot S w w'.drew := ⟨h.os, h.tape, h.output, h.size, h.block⟩
theorem words_drew {w : World} {v : Value} {ws : List Nat} (h : Words w v ws) : Words w.drew v ws := h
theorem RlAt.drew {w : World} {rb : Nat} {sv mv : Value} (h : RlAt w rb sv mv) : RlAt w.drew rb sv mv := h

/-- One word written. -/
theorem one_store {w : World} {rb g N C i a : Nat} {mv : Value} {X : List Nat} (h : RlAt w rb (.slice (some ⟨g, 0, none⟩) N C) mv) (hW : Words w (.slice (some ⟨g, 0, none⟩) N C) X) :
    RlAt (w.setCell ⟨g, i, none⟩ (.int .u64 (a : Nat))) rb (.slice (some ⟨g, 0, none⟩) N C) mv ∧ Words (w.setCell ⟨g, i, none⟩ (.int .u64 (a : Nat))) (.slice (some ⟨g, 0, none⟩) N C) (X.set i a) ∧ Foot (fun k => k = g) w (w.setCell ⟨g, i, none⟩ (.int .u64 (a : Nat))) := by
  refine ⟨h.kept (Foot.setCell w ⟨g, i, none⟩ _) (h.ne_words hW rfl), words_set hW i a, Foot.setCell w ⟨g, i, none⟩ _⟩

theorem two_stores {w : World} {rb g N C i a j b : Nat} {mv : Value} {X : List Nat} (h : RlAt w rb (.slice (some ⟨g, 0, none⟩) N C) mv) (hW : Words w (.slice (some ⟨g, 0, none⟩) N C) X) :
    RlAt ((w.setCell ⟨g, i, none⟩ (.int .u64 (a : Nat))).setCell ⟨g, j, none⟩ (.int .u64 (b : Nat))) rb (.slice (some ⟨g, 0, none⟩) N C) mv ∧ Words ((w.setCell ⟨g, i, none⟩ (.int .u64 (a : Nat))).setCell ⟨g, j, none⟩ (.int .u64 (b : Nat))) (.slice (some ⟨g, 0, none⟩) N C) ((X.set i a).set j b) ∧ Foot (fun k => k = g) w ((w.setCell ⟨g, i, none⟩ (.int .u64 (a : Nat))).setCell ⟨g, j, none⟩ (.int .u64 (b : Nat))) := by
  obtain ⟨h1, h2, h3⟩ := one_store (i := i) (a := a) h hW
  obtain ⟨k1, k2, k3⟩ := one_store (i := j) (a := b) h1 h2
  exact ⟨k1, k2, h3.trans k3 (fun _ _ e => e)⟩

theorem keep_chain {w w1 w2 w3 w5 : World} {rb g N C : Nat} {sv : Value} (F1 : Foot (fun _ => False) w w1) (F2 : Foot (fun k => sv.ownBlock = some k) w1 w2) (F3 : Foot (fun k => k = rb) w2 w3) (F5 : Foot (fun k => k = g) w3 w5) (hsn : SameOrNew w1 sv (.slice (some ⟨g, 0, none⟩) N C)) :
    Foot (fun k => k = rb ∨ sv.ownBlock = some k) w w5 ∧ SameOrNew w sv (.slice (some ⟨g, 0, none⟩) N C) := by
  have hg := hsn g rfl
  have hs := F1.size
  refine ⟨((F1.mono (S' := fun k => k = rb ∨ sv.ownBlock = some k) (fun _ _ e => e.elim)).trans F2 (fun _ _ e => .inr e) |>.trans F3 (fun _ _ e => .inl e)).trans F5 (fun i hi e => ?_), fun b hb => ?_⟩
  · subst e
    rcases hg with hg | hg
    · exact .inr hg
    · omega
  · rcases hsn b hb with h | h
    · exact .inl h
    · exact .inr (by omega)
end Go.Proofs.Qxb6605852a
