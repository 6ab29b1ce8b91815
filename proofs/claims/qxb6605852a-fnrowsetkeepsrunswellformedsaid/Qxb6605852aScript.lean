import Derived.Test.Qxb6605852aClone
namespace Go.Proofs.Qxb6605852a
open Go.RowKit Go.Shelf
set_option linter.unusedVariables false

theorem u30 : Try.prog.underlying 30 = some (.map 24 5) := by kernel_rfl
theorem u5 : Try.prog.underlying 5 = some (.int .u8) := by kernel_rfl
theorem zero5 (w : World) : (zeroValue 5).run Try.prog w = .ok (.int .u8 0) w := by kernel_rfl

/-- The touched rows' slice. -/
def tsl (g n C : Nat) : Value := .slice (some ⟨g, 0, none⟩) n C
def Tch (w : World) (g C : Nat) (T : List Nat) : Prop := w.ownsRow 0 24 1 (.slice (some ⟨g, 0, none⟩) T.length C) T.length (T.map (encK .u32))

theorem Tch.heap {w : World} {g C : Nat} {T : List Nat} (h : Tch w g C T) : ∃ cur, w.heap[g]? = some (.cells cur 24 (0, 0)) ∧ T.length ≤ C ∧ C ≤ maxLen ∧ cur.size = C ∧ cur.toList.take T.length = T.map (encK .u32) := by
  obtain ⟨_, ⟨h, _⟩ | ⟨g', cap, cur, he, _, h1, h2, h3, h4, h5⟩⟩ := h
  · simp at h
  · simp only [Value.slice.injEq, Option.some.injEq, Addr.mk.injEq, and_true, true_and] at he
    obtain ⟨rfl, rfl⟩ := he
    exact ⟨cur, h1, h2, h3, by simpa using h4, by simpa using h5⟩
theorem Tch.lt {w : World} {g C : Nat} {T : List Nat} (h : Tch w g C T) : g < w.heap.size := by
  obtain ⟨cur, h1, _⟩ := h.heap
  exact (Array.getElem?_eq_some_iff.1 h1).1
theorem Tch.kept {S : Nat → Prop} {w w' : World} {g C : Nat} {T : List Nat} (h : Tch w g C T) (hf : Foot S w w') (hn : ¬ S g) : Tch w' g C T := by
  obtain ⟨cur, h1, h2, h3, h4, h5⟩ := h.heap
  exact ⟨by simp, .inr ⟨g, C, cur, rfl, Nat.zero_le _, (hf.block g h.lt hn).trans h1, h2, h3, by simpa using h4, by simpa using h5⟩⟩
theorem Tch.cell {w : World} {g C : Nat} {T : List Nat} (h : Tch w g C T) (i : Nat) (hi : i < T.length) : w.cell? ⟨g, i, none⟩ = some (.int .u32 (gw T i : Nat)) := by
  have := World.ownsRow.cellAt h i (by omega)
  rw [this, gw_of_lt hi]
  simp [hi, encK]

theorem tch_new (w : World) (C : Nat) (hC : C ≤ 1000000) : Tch (w.alloc (.cells (zrowK .u32 C) 24)) w.heap.size C [] := by
  have : (w.alloc (.cells (zrowK .u32 C) 24)).heap[w.heap.size]? = some (.cells (zrowK .u32 C) 24 (0, 0)) := by
    show (w.heap.push _)[w.heap.size]? = _
    simp
  exact ⟨by simp, .inr ⟨_, C, _, rfl, Nat.zero_le _, this, Nat.zero_le _, by unfold maxLen; omega, by simp [zrowK], by simp⟩⟩

/-- 'append(touched, r)' where there is room. -/
theorem tch_append (w : World) (g C r : Nat) (T : List Nat) (h : Tch w g C T) (hroom : T.length < C) :
    ∃ w', (∀ ty, (Builtin.append_ #[22, 22] ty #[.slice (some ⟨g, 0, none⟩) T.length C, .slice (some ⟨w.heap.size, 0, none⟩) 1 1]).run Try.prog (w.alloc (.cells #[.int .u32 (r : Int)] 24)) = .ok (.slice (some ⟨g, 0, none⟩) (T.length + 1) C) w') ∧ Tch w' g C (T ++ [r]) ∧ Foot (fun k => k = g) w w' := by
  obtain ⟨i, hi, hz, h1, h2⟩ := info_parts info24
  have hF : Foot (fun k => k = g) w (w.alloc (.cells #[.int .u32 (r : Int)] 24)) := Foot.of_below ((Below.refl _ _).alloc (Nat.le_refl _) _)
  have h' : Tch (w.alloc (.cells #[.int .u32 (r : Int)] 24)) g C T := h.kept (S := fun _ => False) (Foot.of_below ((Below.refl _ _).alloc (Nat.le_refl _) _)) (fun e => e)
  have key := fun ty => run_append_fits (P := Try.prog) (w := w.alloc (.cells #[.int .u32 (r : Int)] 24)) 0 22 ty 24 i 1 Try.underlying22 hi h1 g T.length C _ h' ⟨w.heap.size, 0, none⟩ 1 1 [.int .u32 (r : Int)] (by simp) (fun j u hu => by
    have hj : j = 0 := by
      have := (List.getElem?_eq_some_iff.1 hu).1
      simpa using this
    subst hj
    simp at hu
    subst hu
    have hb : (w.alloc (.cells #[.int .u32 (r : Int)] 24)).heap[w.heap.size]? = some (.cells #[.int .u32 (r : Int)] 24 (0, 0)) := by
      show (w.heap.push _)[w.heap.size]? = _
      simp
    show (match (w.alloc (.cells #[.int .u32 (r : Int)] 24)).heap[w.heap.size]? with | some (.cells c _ _) => c[0]? | _ => none) = _
    rw [hb]
    rfl) (by simp [Value.oneCell']) (by omega)
  obtain ⟨w', e1, e2, e3⟩ := key 22
  refine ⟨w', fun ty => ?_, ?_, hF.trans (Foot.of_grown e3) (fun k _ e => by cases e; rfl)⟩
  · exact e1
  · unfold Tch
    simpa [encK] using e2
end Go.Proofs.Qxb6605852a
