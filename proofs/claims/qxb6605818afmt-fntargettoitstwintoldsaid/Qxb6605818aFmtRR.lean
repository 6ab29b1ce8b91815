import Derived.Test.Qxb6605818aFmtSeq
namespace Go.Proofs.Qxb6605818aFmt
open Go.RowKit Go.Maps
set_option linter.unusedVariables false

def encN (k : Nat) : Value := .int .i64 (k : Nat)

/-- Rows of numbers behind one row of slices, all of them the call's own and apart. -/
structure RR (base : Nat) (w : World) (G n : Nat) (vs : Nat → Value) (X : Nat → List Nat) : Prop where
  lo : base ≤ G
  out : w.rowIs G 23 n vs
  own : ∀ i, i < n → Own base 3 w (vs i) ((X i).map encN)
  sep : ∀ i j, i < n → j < n → i ≠ j → ∀ b, (vs i).ownBlock = some b → (vs j).ownBlock ≠ some b

section
variable {base : Nat} {w w' : World} {G n : Nat} {vs : Nat → Value} {X : Nat → List Nat}

theorem RR.kept {S : Nat → Prop} (h : RR base w G n vs X) (hF : Foot S w w') (hG : ¬ S G) (hi : ∀ i, i < n → ∀ b, (vs i).ownBlock = some b → ¬ S b) : RR base w' G n vs X :=
  ⟨h.lo, h.out.of_block (hF.block _ h.out.lt hG), fun i hn => (h.own i hn).kept hF (hi i hn), h.sep⟩
theorem RR.new (h : RR base w G n vs X) (hB : Below w.heap.size w w') : RR base w' G n vs X := h.kept (S := fun _ => False) (Foot.of_below hB) id (fun _ _ _ _ => id)
theorem RR.mono {base' : Nat} (h : RR base w G n vs X) (hb : base' ≤ base) : RR base' w G n vs X := ⟨Nat.le_trans hb h.lo, h.out, fun i hi => (h.own i hi).mono hb, h.sep⟩
theorem RR.made (w : World) (base n : Nat) (hb : base ≤ w.heap.size) : RR base (w.alloc (.cells (madeCells #[.slice none 0 0] n) 23)) w.heap.size n (fun _ => .slice none 0 0) (fun _ => []) :=
  ⟨hb, World.rowIs_made w _ n 23, fun i _ => Own.nil _ _ _, fun i j _ _ _ b hb => by simp [Value.ownBlock] at hb⟩

/-- An element's slice has turned to v', which holds ys; it is stored. -/
theorem RR.store (h : RR base w G n vs X) {i : Nat} (hi : i < n) {v' : Value} {ys : List Nat} {w2 : World} (ho : Own base 3 w2 v' (ys.map encN)) (hF : Foot (fun k => (vs i).ownBlock = some k) w w2) (hnew : v'.ownBlock = (vs i).ownBlock ∨ ∃ g, v'.ownBlock = some g ∧ w.heap.size ≤ g) :
    RR base (w2.setCell ⟨G, i, none⟩ v') G n (upd vs i v') (upd X i ys) ∧ Foot (fun k => k = G ∨ (vs i).ownBlock = some k) w (w2.setCell ⟨G, i, none⟩ v') ∧ w2.cell? ⟨G, i, none⟩ = some (vs i) ∧ w2.frozen? ⟨G, i, none⟩ = false := by
  have hsz := hF.size
  have hneG : ∀ j, j < n → ∀ b, (vs j).ownBlock = some b → b ≠ G := fun j hj b hb => (h.own j hj).ne hb h.out (by decide)
  have hout : w2.rowIs G 23 n vs := h.out.of_block (hF.block _ h.out.lt (fun e => hneG i hi G e rfl))
  have hFs := Foot.setCell w2 ⟨G, i, none⟩ v'
  have hv'G : ∀ b, v'.ownBlock = some b → b ≠ G := fun b hb => ho.ne hb hout (by decide)
  refine ⟨⟨h.lo, (hout.set i v').congr (fun j hj => ?_), fun j hj => ?_, fun j k hj hk hjk b hb1 hb2 => ?_⟩, (hF.mono (fun k _ e => .inr e)).trans hFs (fun k _ e => .inl e), hout.cell hi, hout.frozen i⟩
  · by_cases e : j = i
    · subst e; rw [if_pos rfl, upd_same]
    · rw [if_neg e, upd_other _ _ e]
  · by_cases e : j = i
    · subst e
      rw [upd_same, upd_same]
      exact ho.kept hFs (fun b hb e => hv'G b hb e)
    · rw [upd_other _ _ e, upd_other _ _ e]
      exact ((h.own j hj).kept hF (fun b hb e2 => h.sep j i hj hi e b hb e2)).kept hFs (fun b hb e2 => hneG j hj b hb e2)
  · by_cases e : j = i
    · subst e
      rw [upd_same] at hb1
      rw [upd_other _ _ (fun e => hjk e.symm)] at hb2
      rcases hnew with e | ⟨g, e, hg⟩
      · rw [e] at hb1
        exact h.sep j k hj hk hjk b hb1 hb2
      · rw [e] at hb1
        cases hb1
        have := ((h.own k hk).lt hb2).2
        omega
    · rw [upd_other _ _ e] at hb1
      by_cases e2 : k = i
      · subst e2
        rw [upd_same] at hb2
        rcases hnew with e3 | ⟨g, e3, hg⟩
        · rw [e3] at hb2
          exact h.sep j k hj hk hjk b hb1 hb2
        · rw [e3] at hb2
          cases hb2
          have := ((h.own j hj).lt hb1).2
          omega
      · rw [upd_other _ _ e2] at hb2
        exact h.sep j k hj hk hjk b hb1 hb2

/-- 'x[i] = append(x[i], k)'. -/
theorem RR.push (h : RR base w G n vs X) {i : Nat} (hi : i < n) (k : Nat) (hl : (X i).length ≤ 1000000) (hb : base ≤ w.heap.size) :
    ∃ v' w2, (∀ ty, (Builtin.append_ #[23, 23] ty #[vs i, .slice (some ⟨w.heap.size, 0, none⟩) 1 1]).run Tryf.prog (w.alloc (.cells #[.int .i64 (k : Nat)] 3)) = .ok v' w2) ∧ RR base (w2.setCell ⟨G, i, none⟩ v') G n (upd vs i v') (upd X i (X i ++ [k])) ∧ Foot (fun k => k = G ∨ (vs i).ownBlock = some k) w (w2.setCell ⟨G, i, none⟩ v') ∧ Foot (fun k => (vs i).ownBlock = some k) w w2 ∧ w2.cell? ⟨G, i, none⟩ = some (vs i) ∧ w2.frozen? ⟨G, i, none⟩ = false ∧ (v'.ownBlock = (vs i).ownBlock ∨ ∃ g, v'.ownBlock = some g ∧ w.heap.size ≤ g) ∧ ∃ g c, v' = .slice (some ⟨g, 0, none⟩) ((X i).length + 1) c := by
  obtain ⟨v', w2, e1, e2, e3, e4, e5⟩ := app1 (T := 23) _ _ Tryf.underlying23 info3 rfl (by omega) (h.own i hi) (encN k) rfl (by simp; omega) hb
  have hnew : v'.ownBlock = (vs i).ownBlock ∨ ∃ g, v'.ownBlock = some g ∧ w.heap.size ≤ g := by
    rcases e4 with e | e
    · exact .inl e
    · exact .inr ⟨_, e, by omega⟩
  have ho : Own base 3 w2 v' ((X i ++ [k]).map encN) := by rw [List.map_append]; exact e2
  obtain ⟨r1, r2, r3, r4⟩ := h.store hi ho e3 hnew
  exact ⟨v', w2, e1, r1, r2, e3, r3, r4, hnew, by simpa using e5⟩

/-- The rows can be read. -/
theorem RR.read (h : RR base w G n vs X) {i : Nat} (hi : i < n) : ∃ a c, vs i = .slice a (X i).length c ∧ Sl w a (X i).length (fun j => encN ((X i).getD j 0)) ∧ (a = none → X i = [] ∧ c = 0) := by
  obtain ⟨a, c, hv, hn, hs⟩ := (h.own i hi).shape
  have hr := ((h.own i hi).reads hv).2
  simp only [List.length_map] at hv hr
  refine ⟨a, c, hv, hr.congr (fun j hj => ?_), fun e => ?_⟩
  · simp [List.getD, hj, encN]
  · obtain ⟨h1, h2⟩ := hn e
    exact ⟨by simpa using h1, h2⟩
end

theorem append_nils (ty : TypeId) (w : World) : (Builtin.append_ #[23, 23] ty #[.slice none 0 0, .slice none 0 0]).run Tryf.prog w = .ok (.slice none 0 0) w := by kernel_rfl

/-- 'append(nil, src...)'. -/
theorem app_all {base : Nat} {w : World} (a : Option Addr) (m c : Nat) (ys : List Nat) (hy : ys.length = m) (hm : m ≤ 1000000) (h : Sl w a m (fun j => encN (ys.getD j 0))) (hn : a = none → m = 0 ∧ c = 0) (hb : base ≤ w.heap.size) :
    ∃ v' w2, (∀ ty, (Builtin.append_ #[23, 23] ty #[.slice none 0 0, .slice a m c]).run Tryf.prog w = .ok v' w2) ∧ Own base 3 w2 v' (ys.map encN) ∧ Below w.heap.size w w2 ∧ (v'.ownBlock = none ∨ ∃ g, v'.ownBlock = some g ∧ w.heap.size ≤ g) := by
  cases a with
  | none =>
    obtain ⟨rfl, rfl⟩ := hn rfl
    obtain rfl : ys = [] := List.eq_nil_of_length_eq_zero hy
    exact ⟨.slice none 0 0, w, fun ty => append_nils ty w, Own.nil _ _ _, Below.refl _ _, .inl rfl⟩
  | some x =>
    obtain ⟨i, hi, hz, h1, h2⟩ := info_parts info3
    have key := fun ty => run_append_own_at (P := Tryf.prog) (w := w) base 23 ty 3 i _ 1 8 Tryf.underlying23 hi hz h1 h2 rfl (by omega) (.slice none 0 0) 0 [] (World.ownsRow_nil w base 3 1) x m c (ys.map encN) (by simp [hy]) (fun j u hu => by
      have hj : j < ys.length := by
        have := (List.getElem?_eq_some_iff.1 hu).1
        simpa using this
      obtain ⟨y, hy', hc⟩ := h j (by omega)
      cases hy'
      rw [hc]
      rw [List.getElem?_map, List.getElem?_eq_getElem hj] at hu
      simp only [Option.map_some, Option.some.injEq] at hu
      rw [← hu]
      simp [List.getD, hj]) (fun u hu => by
      obtain ⟨k, _, rfl⟩ := List.mem_map.1 hu
      rfl) (by unfold maxLen; omega) (by omega) hb
    obtain ⟨v', w2, e1, e2, e3, e4, e5⟩ := key 23
    refine ⟨v', w2, fun ty => e1, ?_, ⟨e3.os, e3.tape, e3.output, e3.size, fun k hk => e3.block k hk (by simp [Value.ownBlock])⟩, ?_⟩
    · unfold Own
      simpa [hy] using e2
    · rcases e5 with e | e
      · exact .inl e
      · exact .inr ⟨_, e, Nat.le_refl _⟩
end Go.Proofs.Qxb6605818aFmt
