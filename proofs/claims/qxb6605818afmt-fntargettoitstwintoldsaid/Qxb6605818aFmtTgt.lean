import Derived.Test.Qxb6605818aFmtHas
namespace Go.Proofs.Qxb6605818aFmt
open Go.RowKit Go.Maps
set_option linter.unusedVariables false

theorem cells_ne {w : World} {a b : Nat} {c c' : Array Value} {t t' : TypeId} {z z' : Nat × Nat} (h : w.heap[a]? = some (.cells c t z)) (h' : w.heap[b]? = some (.cells c' t' z')) (ht : t ≠ t') : a ≠ b := by
  rintro rfl
  rw [h] at h'
  simp at h'
  exact ht h'.2.1

/-- A target as 'target' builds it: T its block; next G1, prev G2, must Mb, allowed av. -/
structure TSt (base : Nat) (w : World) (T : Nat) (h0 h1 h2 : Value) (G1 G2 Mb N : Nat) (av : Value) (vs1 : Nat → Value) (X1 : Nat → List Nat) (vs2 : Nat → Value) (X2 : Nat → List Nat) (als : List Value) : Prop where
  lo : base ≤ T
  tb : w.heap[T]? = some (.cells #[h0, h1, h2, .slice (some ⟨G1, 0, none⟩) N N, .slice (some ⟨G2, 0, none⟩) N N, .slice (some ⟨Mb, 0, none⟩) N N, av] 67 (0, 0))
  n1 : RR base w G1 N vs1 X1
  n2 : RR base w G2 N vs2 X2
  mlo : base ≤ Mb
  mu : w.rowIs Mb 4 N (boolV fun _ => false)
  al : Own base 32 w av als
  ne : G1 ≠ G2
  dis : ∀ i j, i < N → j < N → ∀ b, (vs1 i).ownBlock = some b → (vs2 j).ownBlock ≠ some b

section
variable {base : Nat} {w w' : World} {T : Nat} {h0 h1 h2 : Value} {G1 G2 Mb N : Nat} {av : Value} {vs1 : Nat → Value} {X1 : Nat → List Nat} {vs2 : Nat → Value} {X2 : Nat → List Nat} {als : List Value}

theorem TSt.new (h : TSt base w T h0 h1 h2 G1 G2 Mb N av vs1 X1 vs2 X2 als) (hB : Below w.heap.size w w') : TSt base w' T h0 h1 h2 G1 G2 Mb N av vs1 X1 vs2 X2 als :=
  ⟨h.lo, (hB.block _ (block_lt h.tb)).trans h.tb, h.n1.new hB, h.n2.new hB, h.mlo, rowIs_below h.mu hB, h.al.below hB, h.ne, h.dis⟩

theorem TSt.cell (h : TSt base w T h0 h1 h2 G1 G2 Mb N av vs1 X1 vs2 X2 als) : w.cell? ⟨T, 3, none⟩ = some (.slice (some ⟨G1, 0, none⟩) N N) ∧ w.cell? ⟨T, 4, none⟩ = some (.slice (some ⟨G2, 0, none⟩) N N) ∧ w.cell? ⟨T, 5, none⟩ = some (.slice (some ⟨Mb, 0, none⟩) N N) ∧ w.cell? ⟨T, 6, none⟩ = some av ∧ w.frozen? ⟨T, 6, none⟩ = false := by
  have := h.tb
  simp [World.cell?, World.frozen?, this]

/-- A row's block is none of the others'. -/
theorem own3_ne (h : TSt base w T h0 h1 h2 G1 G2 Mb N av vs1 X1 vs2 X2 als) {v : Value} {xs : List Value} (ho : Own base 3 w v xs) {b : Nat} (hb : v.ownBlock = some b) : b ≠ T ∧ b ≠ G1 ∧ b ≠ G2 ∧ b ≠ Mb ∧ av.ownBlock ≠ some b := by
  obtain ⟨cur, hc⟩ := ho.heap hb
  refine ⟨cells_ne hc h.tb (by decide), ho.ne hb h.n1.out (by decide), ho.ne hb h.n2.out (by decide), ho.ne hb h.mu (by decide), fun e => ?_⟩
  obtain ⟨cur', hc'⟩ := h.al.heap e
  rw [hc] at hc'
  simp at hc'

theorem TSt.gs (h : TSt base w T h0 h1 h2 G1 G2 Mb N av vs1 X1 vs2 X2 als) : G1 ≠ T ∧ G2 ≠ T ∧ Mb ≠ T ∧ G1 ≠ Mb ∧ G2 ≠ Mb ∧ (∀ b, av.ownBlock = some b → b ≠ T ∧ b ≠ G1 ∧ b ≠ G2 ∧ b ≠ Mb) := by
  have b1 := rowIs_block h.n1.out
  have b2 := rowIs_block h.n2.out
  have b3 := rowIs_block h.mu
  refine ⟨cells_ne b1 h.tb (by decide), cells_ne b2 h.tb (by decide), cells_ne b3 h.tb (by decide), cells_ne b1 b3 (by decide), cells_ne b2 b3 (by decide), fun b hb => ?_⟩
  obtain ⟨cur, hc⟩ := h.al.heap hb
  exact ⟨cells_ne hc h.tb (by decide), cells_ne hc b1 (by decide), cells_ne hc b2 (by decide), cells_ne hc b3 (by decide)⟩

/-- next's row i has turned. -/
theorem TSt.store1 (h : TSt base w T h0 h1 h2 G1 G2 Mb N av vs1 X1 vs2 X2 als) {i : Nat} (hi : i < N) {v' : Value} {ys : List Nat} {w2 : World} (ho : Own base 3 w2 v' (ys.map encN)) (hF : Foot (fun k => (vs1 i).ownBlock = some k) w w2) (hnew : v'.ownBlock = (vs1 i).ownBlock ∨ ∃ g, v'.ownBlock = some g ∧ w.heap.size ≤ g) :
    TSt base (w2.setCell ⟨G1, i, none⟩ v') T h0 h1 h2 G1 G2 Mb N av (upd vs1 i v') (upd X1 i ys) vs2 X2 als ∧ Below base w (w2.setCell ⟨G1, i, none⟩ v') ∧ w2.cell? ⟨G1, i, none⟩ = some (vs1 i) ∧ w2.frozen? ⟨G1, i, none⟩ = false := by
  obtain ⟨r1, r2, r3, r4⟩ := h.n1.store hi ho hF hnew
  obtain ⟨g1, g2, g3, g4, g5, g6⟩ := h.gs
  have hn := fun b hb => own3_ne h (h.n1.own i hi) (b := b) hb
  have hbw : base ≤ w.heap.size := by have := h.n1.out.lt; have := h.n1.lo; omega
  refine ⟨⟨h.lo, ?_, r1, ?_, h.mlo, ?_, ?_, h.ne, fun a j ha hj b hb1 hb2 => ?_⟩, r2.below hbw (fun k e => ?_), r3, r4⟩
  · refine (r2.block T (block_lt h.tb) ?_).trans h.tb
    rintro (e | e)
    · exact g1 e.symm
    · exact (hn T e).1 rfl
  · refine h.n2.kept r2 ?_ (fun j hj b hb e => ?_)
    · rintro (e | e)
      · exact h.ne e.symm
      · exact (hn G2 e).2.2.1 rfl
    · rcases e with e | e
      · exact (own3_ne h (h.n2.own j hj) hb).2.1 e
      · exact h.dis i j hi hj b e hb
  · refine h.mu.of_block (r2.block _ h.mu.lt ?_)
    rintro (e | e)
    · exact g4 e.symm
    · exact (hn Mb e).2.2.2.1 rfl
  · refine h.al.kept r2 (fun b hb e => ?_)
    rcases e with e | e
    · exact (g6 b hb).2.1 e
    · exact (hn b e).2.2.2.2 hb
  · by_cases e : a = i
    · subst e
      rw [upd_same] at hb1
      rcases hnew with e | ⟨g, e, hg⟩
      · rw [e] at hb1
        exact h.dis a j ha hj b hb1 hb2
      · rw [e] at hb1
        cases hb1
        have := ((h.n2.own j hj).lt hb2).2
        omega
    · rw [upd_other _ _ e] at hb1
      exact h.dis a j ha hj b hb1 hb2
  · rcases e with rfl | e
    · exact h.n1.lo
    · exact ((h.n1.own i hi).lt e).1

/-- prev's row i has turned. -/
theorem TSt.store2 (h : TSt base w T h0 h1 h2 G1 G2 Mb N av vs1 X1 vs2 X2 als) {i : Nat} (hi : i < N) {v' : Value} {ys : List Nat} {w2 : World} (ho : Own base 3 w2 v' (ys.map encN)) (hF : Foot (fun k => (vs2 i).ownBlock = some k) w w2) (hnew : v'.ownBlock = (vs2 i).ownBlock ∨ ∃ g, v'.ownBlock = some g ∧ w.heap.size ≤ g) :
    TSt base (w2.setCell ⟨G2, i, none⟩ v') T h0 h1 h2 G1 G2 Mb N av vs1 X1 (upd vs2 i v') (upd X2 i ys) als ∧ Below base w (w2.setCell ⟨G2, i, none⟩ v') ∧ w2.cell? ⟨G2, i, none⟩ = some (vs2 i) ∧ w2.frozen? ⟨G2, i, none⟩ = false := by
  obtain ⟨r1, r2, r3, r4⟩ := h.n2.store hi ho hF hnew
  obtain ⟨g1, g2, g3, g4, g5, g6⟩ := h.gs
  have hn := fun b hb => own3_ne h (h.n2.own i hi) (b := b) hb
  have hbw : base ≤ w.heap.size := by have := h.n1.out.lt; have := h.n1.lo; omega
  refine ⟨⟨h.lo, ?_, ?_, r1, h.mlo, ?_, ?_, h.ne, fun a j ha hj b hb1 hb2 => ?_⟩, r2.below hbw (fun k e => ?_), r3, r4⟩
  · refine (r2.block T (block_lt h.tb) ?_).trans h.tb
    rintro (e | e)
    · exact g2 e.symm
    · exact (hn T e).1 rfl
  · refine h.n1.kept r2 ?_ (fun j hj b hb e => ?_)
    · rintro (e | e)
      · exact h.ne e
      · exact (hn G1 e).2.1 rfl
    · rcases e with e | e
      · exact (own3_ne h (h.n1.own j hj) hb).2.2.1 e
      · exact h.dis j i hj hi b hb e
  · refine h.mu.of_block (r2.block _ h.mu.lt ?_)
    rintro (e | e)
    · exact g5 e.symm
    · exact (hn Mb e).2.2.2.1 rfl
  · refine h.al.kept r2 (fun b hb e => ?_)
    rcases e with e | e
    · exact (g6 b hb).2.2.1 e
    · exact (hn b e).2.2.2.2 hb
  · by_cases e : j = i
    · subst e
      rw [upd_same] at hb2
      rcases hnew with e | ⟨g, e, hg⟩
      · rw [e] at hb2
        exact h.dis a j ha hj b hb1 hb2
      · rw [e] at hb2
        cases hb2
        have := ((h.n1.own a ha).lt hb1).2
        omega
    · rw [upd_other _ _ e] at hb2
      exact h.dis a j ha hj b hb1 hb2
  · rcases e with rfl | e
    · exact h.n2.lo
    · exact ((h.n2.own i hi).lt e).1

/-- 'must[i] = false'. -/
theorem TSt.must (h : TSt base w T h0 h1 h2 G1 G2 Mb N av vs1 X1 vs2 X2 als) (i : Nat) :
    TSt base (w.setCell ⟨Mb, i, none⟩ (.bool false)) T h0 h1 h2 G1 G2 Mb N av vs1 X1 vs2 X2 als ∧ Below base w (w.setCell ⟨Mb, i, none⟩ (.bool false)) := by
  obtain ⟨g1, g2, g3, g4, g5, g6⟩ := h.gs
  have hF := Foot.setCell w ⟨Mb, i, none⟩ (.bool false)
  refine ⟨⟨h.lo, ?_, ?_, ?_, h.mlo, ?_, ?_, h.ne, h.dis⟩, (Below.refl _ _).setCell h.mlo _⟩
  · exact (hF.block T (block_lt h.tb) (fun e => g3 e.symm)).trans h.tb
  · exact h.n1.kept hF (fun e => g4 e) (fun j hj b hb e => (own3_ne h (h.n1.own j hj) hb).2.2.2.1 e)
  · exact h.n2.kept hF (fun e => g5 e) (fun j hj b hb e => (own3_ne h (h.n2.own j hj) hb).2.2.2.1 e)
  · exact (h.mu.set i (.bool false)).congr (fun j hj => by show (if j = i then Value.bool false else boolV (fun _ => false) j) = boolV (fun _ => false) j; split <;> rfl)
  · exact h.al.kept hF (fun b hb e => (g6 b hb).2.2.2 e)

/-- 'allowed = append(allowed, v)'. -/
theorem TSt.allow (h : TSt base w T h0 h1 h2 G1 G2 Mb N av vs1 X1 vs2 X2 als) (x : Value) (hx : x.oneCell' = true) (hl : als.length ≤ 1000000) :
    ∃ av' w2, (∀ ty, (Builtin.append_ #[38, 38] ty #[av, .slice (some ⟨w.heap.size, 0, none⟩) 1 1]).run Tryf.prog (w.alloc (.cells #[x] 32)) = .ok av' w2) ∧ TSt base (w2.setCell ⟨T, 6, none⟩ av') T h0 h1 h2 G1 G2 Mb N av' vs1 X1 vs2 X2 (als ++ [x]) ∧ Below base w (w2.setCell ⟨T, 6, none⟩ av') ∧ w2.cell? ⟨T, 6, none⟩ = some av ∧ w2.frozen? ⟨T, 6, none⟩ = false ∧ (∀ b t n f, w.rowIs b t n f → t ≠ 32 → b ≠ T → (w2.setCell ⟨T, 6, none⟩ av').rowIs b t n f) ∧ ∃ g c, av' = .slice (some ⟨g, 0, none⟩) (als.length + 1) c := by
  have hbw : base ≤ w.heap.size := by have := h.n1.out.lt; have := h.n1.lo; omega
  obtain ⟨v', w2, e1, e2, e3, e4, e5⟩ := app1 (T := 38) _ _ Tryf.underlying38 info32 rfl (by omega) h.al x hx (by omega) hbw
  obtain ⟨g1, g2, g3, g4, g5, g6⟩ := h.gs
  have htb : w2.heap[T]? = some (.cells #[h0, h1, h2, .slice (some ⟨G1, 0, none⟩) N N, .slice (some ⟨G2, 0, none⟩) N N, .slice (some ⟨Mb, 0, none⟩) N N, av] 67 (0, 0)) := (e3.block T (block_lt h.tb) (fun e => (g6 T e).1 rfl)).trans h.tb
  have hFs := Foot.setCell w2 ⟨T, 6, none⟩ v'
  have hFo : Foot (fun k => k = T ∨ av.ownBlock = some k) w (w2.setCell ⟨T, 6, none⟩ v') := (e3.mono (fun k _ e => .inr e)).trans hFs (fun k _ e => .inl e)
  refine ⟨v', w2, e1, ⟨h.lo, ?_, ?_, ?_, h.mlo, ?_, ?_, h.ne, h.dis⟩, hFo.below hbw (fun k e => ?_), by simp [World.cell?, htb], by simp [World.frozen?, htb], fun b t n f hr ht hbT => ?_, e5⟩
  · simp [World.setCell, Array.getElem?_modify, htb]
  · refine h.n1.kept hFo ?_ (fun j hj b hb e => ?_)
    · rintro (e | e)
      · exact g1 e
      · exact (g6 _ e).2.1 rfl
    · have hh := own3_ne h (h.n1.own j hj) hb
      rcases e with e | e
      · exact hh.1 e
      · exact hh.2.2.2.2 e
  · refine h.n2.kept hFo ?_ (fun j hj b hb e => ?_)
    · rintro (e | e)
      · exact g2 e
      · exact (g6 _ e).2.2.1 rfl
    · have hh := own3_ne h (h.n2.own j hj) hb
      rcases e with e | e
      · exact hh.1 e
      · exact hh.2.2.2.2 e
  · refine h.mu.of_block (hFo.block _ h.mu.lt ?_)
    rintro (e | e)
    · exact g3 e
    · exact (g6 _ e).2.2.2 rfl
  · refine e2.kept hFs (fun b hb e => ?_)
    obtain ⟨cur, hc⟩ := e2.heap hb
    exact cells_ne hc htb (by decide) e
  · rcases e with rfl | e
    · exact h.lo
    · exact (h.al.lt e).1
  · refine hr.of_block (hFo.block b hr.lt ?_)
    rintro (e | e)
    · exact hbT e
    · exact h.al.ne e hr ht rfl
end
end Go.Proofs.Qxb6605818aFmt
