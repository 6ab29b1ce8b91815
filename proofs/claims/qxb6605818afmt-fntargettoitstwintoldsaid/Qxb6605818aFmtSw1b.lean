import Derived.Test.Qxb6605818aFmtSw1
import Derived.Test.Qxb6605818aFmtSeq
namespace Go.Proofs.Qxb6605818aFmt
open Go.RowKit Go.Maps
set_option linter.unusedVariables false

theorem info67 : (Tryf.prog.info? 67).map (fun i => (i.zero, i.size, i.bytes)) = some (some (.agg #[.string ⟨#[]⟩, .slice none 0 0, .slice none 0 0, .slice none 0 0, .slice none 0 0, .slice none 0 0, .slice none 0 0]), 7, 160) := by kernel_rfl

/-- Two fresh rows of rows, laid into the switching. -/
theorem sw_made {wr : World} {sb N Ga Gb : Nat} {c0 c1 c2 c3 c4 c5 c10 : Value} (hb : wr.heap[sb]? = some (.cells #[c0, c1, c2, c3, c4, c5, .slice none 0 0, .slice none 0 0, .slice none 0 0, .slice none 0 0, c10] 77 (0, 0)))
    (h : (Ga = wr.heap.size ∧ Gb = wr.heap.size + 1) ∨ (Ga = wr.heap.size + 1 ∧ Gb = wr.heap.size)) :
    ∃ G1 G2, Hid (((((wr.setCell ⟨sb, 6, none⟩ (.slice (some ⟨Ga, 0, none⟩) N N)).setCell ⟨sb, 7, none⟩ (.slice (some ⟨Gb, 0, none⟩) N N)).alloc (.cells (madeCells #[.slice none 0 0] N) 23)).alloc (.cells (madeCells #[.slice none 0 0] N) 23)).drew.heap[sb]? = some (.cells #[c0, c1, c2, c3, c4, c5, .slice (some ⟨G1, 0, none⟩) N N, .slice (some ⟨G2, 0, none⟩) N N, .slice none 0 0, .slice none 0 0, c10] 77 (0, 0)))
      ∧ Hid (BA wr.heap.size ((((wr.setCell ⟨sb, 6, none⟩ (.slice (some ⟨Ga, 0, none⟩) N N)).setCell ⟨sb, 7, none⟩ (.slice (some ⟨Gb, 0, none⟩) N N)).alloc (.cells (madeCells #[.slice none 0 0] N) 23)).alloc (.cells (madeCells #[.slice none 0 0] N) 23)).drew G1 G2 N (fun _ => .slice none 0 0) (fun _ => []) (fun _ => .slice none 0 0) (fun _ => []))
      ∧ Hid (Foot (fun k => k = sb) wr ((((wr.setCell ⟨sb, 6, none⟩ (.slice (some ⟨Ga, 0, none⟩) N N)).setCell ⟨sb, 7, none⟩ (.slice (some ⟨Gb, 0, none⟩) N N)).alloc (.cells (madeCells #[.slice none 0 0] N) 23)).alloc (.cells (madeCells #[.slice none 0 0] N) 23)).drew) := by
  obtain ⟨W, hW⟩ : ∃ W, (wr.setCell ⟨sb, 6, none⟩ (.slice (some ⟨Ga, 0, none⟩) N N)).setCell ⟨sb, 7, none⟩ (.slice (some ⟨Gb, 0, none⟩) N N) = W := ⟨_, rfl⟩
  have hs : W.heap.size = wr.heap.size := by rw [← hW]; simp [World.setCell]
  have hX : W.heap[sb]? = some (.cells #[c0, c1, c2, c3, c4, c5, .slice (some ⟨Ga, 0, none⟩) N N, .slice (some ⟨Gb, 0, none⟩) N N, .slice none 0 0, .slice none 0 0, c10] 77 (0, 0)) := by
    rw [← hW]; simp [World.setCell, Array.getElem?_modify, hb]
  have hF : Foot (fun k => k = sb) wr W := by
    rw [← hW]
    exact ((Foot.setCell wr ⟨sb, 6, none⟩ _).mono (fun k _ e => e)).trans ((Foot.setCell _ ⟨sb, 7, none⟩ _).mono (fun k _ e => e)) (fun _ _ e => e)
  rw [hW]
  obtain ⟨V, hV⟩ : ∃ V, ((W.alloc (.cells (madeCells #[.slice none 0 0] N) 23)).alloc (.cells (madeCells #[.slice none 0 0] N) 23)).drew = V := ⟨_, rfl⟩
  have e1 : V.heap[wr.heap.size]? = some (.cells (madeCells #[.slice none 0 0] N) 23 (0, 0)) := by rw [← hV]; exact at_drew (at_old _ _ (at_new _ _ hs))
  have e2 : V.heap[wr.heap.size + 1]? = some (.cells (madeCells #[.slice none 0 0] N) 23 (0, 0)) := by rw [← hV]; exact at_drew (at_new _ _ (by simp [hs]))
  have e3 : V.heap[sb]? = some (.cells #[c0, c1, c2, c3, c4, c5, .slice (some ⟨Ga, 0, none⟩) N N, .slice (some ⟨Gb, 0, none⟩) N N, .slice none 0 0, .slice none 0 0, c10] 77 (0, 0)) := by rw [← hV]; exact at_drew (at_old _ _ (at_old _ _ hX))
  have e4 : Foot (fun k => k = sb) wr V := by
    rw [← hV]
    exact ((hF.trans (Foot.alloc (fun k => k = sb) _ _) (fun _ _ e => e)).trans (Foot.alloc (fun k => k = sb) _ _) (fun _ _ e => e)).drew
  rw [hV]
  have made : ∀ (b : Nat), V.heap[b]? = some (.cells (madeCells #[.slice none 0 0] N) 23 (0, 0)) → V.rowIs b 23 N (fun _ => .slice none 0 0) := fun b h => ⟨_, h, size_madeCells _ _, fun i hi => by simp [madeCells, hi, Nat.mod_one]⟩
  have rr : ∀ b, wr.heap.size ≤ b → V.heap[b]? = some (.cells (madeCells #[.slice none 0 0] N) 23 (0, 0)) → RR wr.heap.size V b N (fun _ => .slice none 0 0) (fun _ => []) := fun b hl h => ⟨hl, made b h, fun i _ => Own.nil _ _ _, fun i j _ _ _ b hb => by simp [Value.ownBlock] at hb⟩
  rcases h with ⟨rfl, rfl⟩ | ⟨rfl, rfl⟩
  · exact ⟨_, _, e3, ⟨rr _ (by omega) e1, rr _ (by omega) e2, by omega, fun i j _ _ b hb => by simp [Value.ownBlock] at hb⟩, e4⟩
  · exact ⟨_, _, e3, ⟨rr _ (by omega) e2, rr _ (by omega) e1, by omega, fun i j _ _ b hb => by simp [Value.ownBlock] at hb⟩, e4⟩

/-- The first target is appended to none. -/
theorem tg_app (w : World) (a0 a1 a2 a3 a4 a5 a6 : Value) (h0 : a0.oneCell' = true) (h1 : a1.oneCell' = true) (h2 : a2.oneCell' = true) (h3 : a3.oneCell' = true) (h4 : a4.oneCell' = true) (h5 : a5.oneCell' = true) (h6 : a6.oneCell' = true) :
    ∃ g c w', (∀ ty, (Builtin.append_ #[74, 74] ty #[.slice none 0 0, .slice (some ⟨w.heap.size, 0, none⟩) 1 1]).run Tryf.prog (w.alloc (.cells #[a0, a1, a2, a3, a4, a5, a6] 67)) = .ok (.slice (some ⟨g, 0, none⟩) 1 c) w') ∧ Below w.heap.size w w' := by
  obtain ⟨i, hi, hz, hs1, hs2⟩ := info_parts info67
  have hb : (w.alloc (.cells #[a0, a1, a2, a3, a4, a5, a6] 67)).heap[w.heap.size]? = some (.cells #[a0, a1, a2, a3, a4, a5, a6] 67 (0, 0)) := heap_alloc_new _ _
  have key := fun ty => run_append_own_at (P := Tryf.prog) (w := w.alloc (.cells #[a0, a1, a2, a3, a4, a5, a6] 67)) w.heap.size 74 ty 67 i _ 7 160 Tryf.underlying74 hi hz hs1 hs2 (by rfl) (by omega) (.slice none 0 0) 0 [] ⟨rfl, .inl ⟨rfl, rfl⟩⟩ ⟨w.heap.size, 0, none⟩ 1 1 [a0, a1, a2, a3, a4, a5, a6] (by simp) (fun j u hu => by
    rw [Addr.add_lit, Nat.zero_add]
    show (match (w.alloc (.cells #[a0, a1, a2, a3, a4, a5, a6] 67)).heap[w.heap.size]? with | some (.cells c _ _) => c[j]? | _ => none) = _
    rw [hb]
    simpa using hu) (by simp [h0, h1, h2, h3, h4, h5, h6]) (by unfold maxLen; omega) (by omega) (by simp)
  obtain ⟨v', w', e1, e2, e3, e4, e5⟩ := key 74
  obtain ⟨_, e2⟩ := e2
  rcases e2 with ⟨rfl, h⟩ | ⟨g, c, cur, rfl, _⟩
  · omega
  · refine ⟨g, c, w', fun ty => e1, ?_⟩
    have f1 : Foot (fun _ => False) w w' := (Foot.alloc _ w _).trans (Foot.of_grown e3) (fun k _ e => by simp [Value.ownBlock] at e)
    exact f1.below (Nat.le_refl _) (fun _ e => e.elim)
end Go.Proofs.Qxb6605818aFmt
