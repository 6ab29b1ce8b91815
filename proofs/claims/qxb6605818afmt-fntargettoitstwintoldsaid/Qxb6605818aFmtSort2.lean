import Derived.Test.Qxb6605818aFmtSort
namespace Go.Proofs.Qxb6605818aFmt
open Go.RowKit Go.Maps
set_option linter.unusedVariables false

section
variable {B bm : Nat} {w w' : World} {pv qv : Value} {path seq : List ByteArray} {st : ByteArray → Nat} {n : Nat}

/-- 'path = path[:len(path)-1]'. -/
theorem SortSt.pop {g c : Nat} {x : ByteArray} (h : SortSt B bm w (.slice (some ⟨g, 0, none⟩) (path.length + 1) c) qv (path ++ [x]) seq st n) :
    SortSt B bm (w.setCell ⟨B + 5, 0, none⟩ (.slice (some ⟨g, 0, none⟩) path.length c)) (.slice (some ⟨g, 0, none⟩) path.length c) qv path seq st n ∧ Below B w (w.setCell ⟨B + 5, 0, none⟩ (.slice (some ⟨g, 0, none⟩) path.length c)) ∧ path.length + 1 ≤ c ∧ c ≤ maxLen := by
  have hFs := Foot.setCell w ⟨B + 5, 0, none⟩ (.slice (some ⟨g, 0, none⟩) path.length c)
  obtain ⟨hsm, hM⟩ := h.mp
  have np := h.ne_p (b := g) rfl
  have hp : Own B 9 w (.slice (some ⟨g, 0, none⟩) path.length c) (path.map Value.string) := by
    have h1 := h.pown
    unfold Own at h1 ⊢
    rw [List.map_append, List.length_append] at h1
    have := ownsRow_pop (xs := path.map Value.string) (last := [x].map Value.string) (n := path.length) (size := 1) (by simp) (by simpa using h1)
    simpa using this
  have hcap : path.length + 1 ≤ c ∧ c ≤ maxLen := by
    have h1 := h.pown
    obtain ⟨_, ⟨h2, _⟩ | ⟨g', cap, cur, hv, k1, k2, k3, k4, k5, k6⟩⟩ := h1
    · cases h2
    · simp only [Value.slice.injEq] at hv
      obtain ⟨_, e1, e2⟩ := hv
      subst e2
      rw [← e1] at k3
      exact ⟨k3, k4⟩
  refine ⟨⟨?_, ?_, ⟨hsm, ?_⟩, ?_, ?_, ?_, ?_, ?_, ?_⟩, ?_, hcap⟩
  · exact h.bef.of_block (hFs.block _ h.bef.lt (by show ¬ B = B + 5; omega))
  · exact h.sqb.of_block (hFs.block _ h.sqb.lt (by show ¬ B + 1 = B + 5; omega))
  · exact hM.kept hFs (by show ¬ B + 2 = B + 5; omega)
  · exact h.stb.of_block (hFs.block _ h.stb.lt (by show ¬ B + 3 = B + 5; omega))
  · exact (h.ptb.set 0 _).congr (fun i hi => by simp; omega)
  · exact h.clb.of_block (hFs.block _ h.clb.lt (by show ¬ B + 6 = B + 5; omega))
  · exact hp.kept hFs (fun b hb e => by cases hb; exact np.2.2.2.2.1 e)
  · exact h.qown.kept hFs (fun b hb e => (h.ne_q hb).2.2.2.2.1 e)
  · exact fun b hb hb2 => h.sep b (by cases hb; rfl) hb2
  · exact (Below.refl _ _).setCell (by show B ≤ B + 5; omega) _

/-- 'sequence = append(sequence, x)'. -/
theorem SortSt.pushSeq (h : SortSt B bm w pv qv path seq st n) (x : ByteArray) (hl : seq.length ≤ 1000000) :
    ∃ qv' w', (∀ ty, (Builtin.append_ #[22, 22] ty #[qv, .slice (some ⟨w.heap.size, 0, none⟩) 1 1]).run Tryf.prog (w.alloc (.cells #[.string x] 9)) = .ok qv' w') ∧ SortSt B bm (w'.setCell ⟨B + 1, 0, none⟩ qv') pv qv' path (seq ++ [x]) st n ∧ w'.cell? ⟨B + 1, 0, none⟩ = some qv ∧ w'.frozen? ⟨B + 1, 0, none⟩ = false ∧ Below B w (w'.setCell ⟨B + 1, 0, none⟩ qv') ∧ (∃ g c, qv' = .slice (some ⟨g, 0, none⟩) (seq.length + 1) c) := by
  obtain ⟨v', w', e1, e2, e3, e4, e5⟩ := app1 (T := 22) _ _ Tryf.underlying22 info9 rfl (by omega) h.qown (.string x) rfl (by simp; omega) (by have := h.bef.lt; omega)
  have hs := e3.size
  have hblt := h.bef.lt
  obtain ⟨hsm, hM⟩ := h.mp
  have nq := fun b hb => h.ne_q (b := b) hb
  have hsq : w'.rowIs (B + 1) 22 1 (fun _ => qv) := h.sqb.of_block (e3.block _ h.sqb.lt (fun e => (nq _ e).2.1 rfl))
  have hFs := Foot.setCell w' ⟨B + 1, 0, none⟩ v'
  have hp' : Own B 9 w' pv (path.map Value.string) := h.pown.kept e3 (fun b hb e => h.sep b hb e)
  have hv1 : ∀ b, v'.ownBlock = some b → b ≠ B + 1 := fun b hb => e2.ne hb hsq (by decide)
  refine ⟨v', w', e1, ⟨?_, ?_, ⟨hsm, ?_⟩, ?_, ?_, ?_, ?_, ?_, ?_⟩, hsq.cell (by omega), hsq.frozen 0, ?_, ?_⟩
  · exact (h.bef.of_block (e3.block _ h.bef.lt (fun e => (nq _ e).1 rfl))).of_block (hFs.block _ (by omega) (by show ¬ B = B + 1; omega))
  · exact (hsq.set 0 v').congr (fun i hi => by simp; omega)
  · exact (hM.kept e3 (fun e => (nq _ e).2.2.1 rfl)).kept hFs (by show ¬ B + 2 = B + 1; omega)
  · exact (h.stb.of_block (e3.block _ h.stb.lt (fun e => (nq _ e).2.2.2.1 rfl))).of_block (hFs.block _ (by have := h.stb.lt; omega) (by show ¬ B + 3 = B + 1; omega))
  · exact (h.ptb.of_block (e3.block _ h.ptb.lt (fun e => (nq _ e).2.2.2.2.1 rfl))).of_block (hFs.block _ (by have := h.ptb.lt; omega) (by show ¬ B + 5 = B + 1; omega))
  · exact (h.clb.of_block (e3.block _ h.clb.lt (fun e => (nq _ e).2.2.2.2.2 rfl))).of_block (hFs.block _ (by have := h.clb.lt; omega) (by show ¬ B + 6 = B + 1; omega))
  · exact hp'.kept hFs (fun b hb e => (h.ne_p hb).2.1 e)
  · rw [List.map_append]
    exact e2.kept hFs (fun b hb e => hv1 b hb e)
  · intro b hb hb2
    rcases e4 with e | e
    · rw [e] at hb2
      exact h.sep b hb hb2
    · rw [e] at hb2
      cases hb2
      have := (h.pown.lt hb).2
      omega
  · exact ((e3.mono (S' := fun k => B ≤ k) (fun i _ e => (h.qown.lt e).1)).trans hFs (fun i _ e => by show B ≤ i; have : i = B + 1 := e; omega)).below (by omega) (fun k e => e)
  · simpa using e5
end

/-! ### The plain side of sortBefore -/
def unseen (ul : List ByteArray) (st : ByteArray → Nat) : Nat := (ul.filter (fun x => decide (st x = 0))).length

theorem unseen_le (ul : List ByteArray) (st : ByteArray → Nat) : unseen ul st ≤ ul.length := List.length_filter_le _ _

theorem unseen_mono (ul : List ByteArray) (st st' : ByteArray → Nat) (h : ∀ x, st x ≠ 0 → st' x ≠ 0) : unseen ul st' ≤ unseen ul st := by
  induction ul with
  | nil => exact Nat.le_refl _
  | cons a l ih =>
    unfold unseen at *
    simp only [List.filter_cons]
    by_cases h1 : st a = 0
    · by_cases h2 : st' a = 0
      · simp [h1, h2]; exact ih
      · simp [h1, h2]; omega
    · have h2 := h a h1
      simp [h1, h2]
      exact ih

theorem unseen_mark (ul : List ByteArray) (st : ByteArray → Nat) (x : ByteArray) (v : Nat) (hv : v ≠ 0) (hx : x ∈ ul) (h0 : st x = 0) : unseen ul (upd st x v) + 1 ≤ unseen ul st := by
  induction ul with
  | nil => simp at hx
  | cons a l ih =>
    by_cases hax : a = x
    · subst hax
      have := unseen_mono l st (upd st a v) (fun y hy => by
        by_cases e : y = a
        · subst e; rw [upd_same]; exact hv
        · rw [upd_other _ _ e]; exact hy)
      unfold unseen at *
      simp only [List.filter_cons, upd_same]
      simp [hv, h0]
      omega
    · have hx' : x ∈ l := by
        rcases List.mem_cons.1 hx with e | e
        · exact absurd e.symm hax
        · exact e
      have := ih hx'
      unfold unseen at *
      simp only [List.filter_cons, upd_other st v hax]
      by_cases h1 : st a = 0
      · simp [h1]; omega
      · simp [h1]; omega

/-- What the states, the path and the sequence keep. -/
structure PInv (ul : List ByteArray) (path seq : List ByteArray) (st : ByteArray → Nat) (n : Nat) : Prop where
  two : ∀ x, st x ≤ 2
  mem : ∀ x, st x = 1 ↔ x ∈ path
  pul : ∀ x ∈ path, x ∈ ul
  sul : ∀ x ∈ seq, x ∈ ul
  room : seq.length + path.length + unseen ul st ≤ ul.length
  puts : n + 2 * unseen ul st + path.length ≤ 2 * ul.length

theorem PInv.mark {ul path seq : List ByteArray} {st : ByteArray → Nat} {n : Nat} (h : PInv ul path seq st n) {x : ByteArray} (hx : x ∈ ul) (h0 : st x = 0) : PInv ul (path ++ [x]) seq (upd st x 1) (n + 1) := by
  have hu := unseen_mark ul st x 1 (by omega) hx h0
  refine ⟨fun y => ?_, fun y => ?_, fun y hy => ?_, h.sul, ?_, ?_⟩
  · by_cases e : y = x
    · subst e; rw [upd_same]; omega
    · rw [upd_other _ _ e]; exact h.two y
  · by_cases e : y = x
    · subst e; rw [upd_same]; simp
    · rw [upd_other _ _ e, h.mem y]; simp [e]
  · rcases List.mem_append.1 hy with hy | hy
    · exact h.pul y hy
    · simp only [List.mem_singleton] at hy; rw [hy]; exact hx
  · have := h.room; simp; omega
  · have := h.puts; simp; omega

theorem PInv.done {ul path seq : List ByteArray} {st : ByteArray → Nat} {n : Nat} {x : ByteArray} (h : PInv ul (path ++ [x]) seq st n) (hx : x ∈ ul) (hn : x ∉ path) (h1 : st x ≠ 0) : PInv ul path (seq ++ [x]) (upd st x 2) (n + 1) := by
  have hu : unseen ul (upd st x 2) ≤ unseen ul st := unseen_mono ul st _ (fun y hy => by
    by_cases e : y = x
    · subst e; rw [upd_same]; omega
    · rw [upd_other _ _ e]; exact hy)
  refine ⟨fun y => ?_, fun y => ?_, fun y hy => h.pul y (List.mem_append.2 (.inl hy)), fun y hy => ?_, ?_, ?_⟩
  · by_cases e : y = x
    · subst e; rw [upd_same]; omega
    · rw [upd_other _ _ e]; exact h.two y
  · by_cases e : y = x
    · subst e; rw [upd_same]; simp [hn]
    · rw [upd_other _ _ e, h.mem y]; simp [e]
  · rcases List.mem_append.1 hy with hy | hy
    · exact h.sul y hy
    · simp only [List.mem_singleton] at hy; rw [hy]; exact hx
  · have := h.room; simp at *; omega
  · have := h.puts; simp at *; omega
end Go.Proofs.Qxb6605818aFmt
