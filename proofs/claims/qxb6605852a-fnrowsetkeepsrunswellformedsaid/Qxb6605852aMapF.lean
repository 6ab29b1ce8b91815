import Derived.Test.Qxb6605852aRl
import Derived.Maps.OwnSet
import Derived.Maps.Views
namespace Go.Proofs.Qxb6605852a
open Go.RowKit Go.Maps
set_option linter.unusedVariables false

theorem u50 : Try.prog.underlying 50 = some (.map 24 53) := by kernel_rfl
theorem u53 : Try.prog.underlying 53 = some (.int .u32) := by kernel_rfl
theorem u24 : Try.prog.underlying 24 = some (.int .u32) := by kernel_rfl
theorem law24 : Keyed Try.prog 24 := int_keyed u24
theorem zero53 (w : World) : (zeroValue 53).run Try.prog w = .ok (.int .u32 0) w := by kernel_rfl

theorem wf_u32 {a : Nat} (h : a < 4294967296) : (Lit.int .u32 (a : Int)).wf = true := by
  have h1 : IntKind.u32.min = 0 := by decide
  have h2 : IntKind.u32.max = 4294967295 := by decide
  simp [Lit.wf, h1, h2]
  omega
theorem wf_u8 {a : Nat} (h : a < 256) : (Lit.int .u8 (a : Int)).wf = true := by
  have h1 : IntKind.u8.min = 0 := by decide
  have h2 : IntKind.u8.max = 255 := by decide
  simp [Lit.wf, h1, h2]
  omega

theorem key32 {a : Nat} (h : a < 4294967296) : keyOf Try.prog 24 (.int .u32 (a : Int)) = some (.int .u32 (a : Int)) := keyOf_int_mk u24 (wf_u32 h)

def upd {α : Type} (f : Nat → α) (r : Nat) (x : α) : Nat → α := fun i => if i = r then x else f i

/-- Block b is a map from row numbers to numbers: f says what it holds (0 where nothing), hs whether there is an entry, sz how many. -/
def MapF (T E : TypeId) (q : IntKind) (w : World) (b n : Nat) (f : Nat → Nat) (hs : Nat → Bool) (sz : Nat) : Prop :=
  ∃ D : DataW Unit, w.ownsMap Try.prog 24 (plainElem Try.prog E) b n D ∧ (∀ r : Nat, r < 4294967296 → D.atKey (.int .u32 (r : Int)) (.lit (.int q 0)) = .lit (.int q (f r : Int)))
    ∧ (∀ r : Nat, r < 4294967296 → Maps.has D (.int .u32 (r : Int)) = hs r) ∧ Maps.size D = sz

section
variable {T E : TypeId} {q : IntKind} {w w' : World} {b n : Nat} {f : Nat → Nat} {hs : Nat → Bool} {sz : Nat}

theorem MapF.lt (h : MapF T E q w b n f hs sz) : b < w.heap.size := by obtain ⟨D, h, _⟩ := h; exact h.lt
theorem MapF.is_map (h : MapF T E q w b n f hs sz) : ∃ es c, w.heap[b]? = some (.map es c) := by obtain ⟨D, ⟨es, c, h, _⟩, _⟩ := h; exact ⟨es, c, h⟩
theorem MapF.kept {S : Nat → Prop} (h : MapF T E q w b n f hs sz) (hf : Foot S w w') (hn : ¬ S b) : MapF T E q w' b n f hs sz := by
  obtain ⟨D, ⟨es, c, h1, h2⟩, h3⟩ := h
  exact ⟨D, ⟨es, c, (hf.block b (Array.getElem?_eq_some_iff.1 h1).1 hn).trans h1, h2⟩, h3⟩
theorem MapF.mono (h : MapF T E q w b n f hs sz) {n' : Nat} (hn : n ≤ n') : MapF T E q w b n' f hs sz := by
  obtain ⟨D, h, h3⟩ := h
  exact ⟨D, h.mono hn, h3⟩

theorem key_ne {i r : Nat} (h : i ≠ r) : (Lit.int .u32 (i : Int)) ≠ .int .u32 (r : Int) := by
  intro e
  simp only [Lit.int.injEq, true_and] at e
  omega

theorem MapF.look (h : MapF T E q w b n f hs sz) (hT : Try.prog.underlying T = some (.map 24 E)) (hE : Try.prog.underlying E = some (.int q)) (hz : (zeroValue E).run Try.prog w = .ok (.int q 0) w) (r : Nat) (hr : r < 4294967296) :
    (Instr.lookup T (.map (some b)) (.int .u32 (r : Int)) false).run Try.prog w = .ok (.int q (f r : Int)) w := by
  obtain ⟨D, h1, h2, _⟩ := h
  obtain ⟨c, e1, e2, e3⟩ := h1.lookup_int law24 hT hE hz (key32 hr)
  rw [h2 r hr] at e2
  rw [e1]
  simp at e2
  rw [e2]

theorem MapF.look_ok (h : MapF T E q w b n f hs sz) (hT : Try.prog.underlying T = some (.map 24 E)) (hE : Try.prog.underlying E = some (.int q)) (hz : (zeroValue E).run Try.prog w = .ok (.int q 0) w) (hw0 : (Lit.int q 0).wf = true) (r : Nat) (hr : r < 4294967296) :
    (Instr.lookup T (.map (some b)) (.int .u32 (r : Int)) true).run Try.prog w = .ok (.tuple #[.int q (f r : Int), .bool (hs r)]) w := by
  obtain ⟨D, h1, h2, h3, _⟩ := h
  obtain ⟨v, ps, e1, e2⟩ := h1.look_ok law24 hT hz (plainElem_int hE hw0) (key32 hr)
  rw [h2 r hr] at e2
  obtain ⟨c, rfl, hc, _⟩ := plainElem_int_inv hE e2
  simp at hc
  rw [e1, h3 r hr, ← hc.1]

theorem MapF.len (h : MapF T E q w b n f hs sz) (hT : Try.prog.underlying T = some (.map 24 E)) (ty : TypeId) : (Builtin.len_ #[T] ty #[.map (some b)]).run Try.prog w = .ok (.int .i64 (sz : Int)) w := by
  obtain ⟨D, h1, h2, h3, h4⟩ := h
  rw [h1.len hT ty, h4]

theorem MapF.put (h : MapF T E q w b n f hs sz) (hT : Try.prog.underlying T = some (.map 24 E)) (hE : Try.prog.underlying E = some (.int q)) (hn : n < maxLen) (r x : Nat) (hr : r < 4294967296) (hx : (Lit.int q (x : Int)).wf = true) :
    ∃ w', (Instr.mapUpdate T (.map (some b)) (.int .u32 (r : Int)) (.int q (x : Int))).run Try.prog w = .ok () w' ∧ MapF T E q w' b (n + 1) (upd f r x) (upd hs r true) (if hs r then sz else sz + 1) ∧ Foot (fun k => k = b) w w' := by
  obtain ⟨D, h1, h2, h3, h4⟩ := h
  obtain ⟨w', e1, e2, e3⟩ := h1.store law24 hT hn (key32 hr) (plainElem_int hE hx)
  refine ⟨w', e1, ⟨_, e2, fun i hi => ?_, fun i hi => ?_, ?_⟩, (Foot.of_grown e3.grown).mono (fun i _ e => by cases e; rfl)⟩
  · by_cases hir : i = r
    · subst hir
      rw [atKey_put_same h1.isMap (show WideAt.IsKeyLit (.int .u32 (i : Int)) from trivial)]
      simp [upd]
    · rw [atKey_put_other (key_ne hir), h2 i hi]
      simp [upd, hir]
  · by_cases hir : i = r
    · subst hir
      rw [has_put_same h1.isMap (show WideAt.IsKeyLit (.int .u32 (i : Int)) from trivial)]
      simp [upd]
    · rw [has_put_other (key_ne hir), h3 i hi]
      simp [upd, hir]
  · rw [size_put (h1.tidy law24), h3 r hr, h4]

theorem MapF.del (h : MapF T E q w b n f hs sz) (hT : Try.prog.underlying T = some (.map 24 E)) (r : Nat) (hr : r < 4294967296) (ty : TypeId) :
    ∃ w', (Builtin.delete_ #[T, 24] ty #[.map (some b), .int .u32 (r : Int)]).run Try.prog w = .ok (.tuple #[]) w' ∧ MapF T E q w' b n (upd f r 0) (upd hs r false) (sz - if hs r then 1 else 0) ∧ Foot (fun k => k = b) w w' := by
  obtain ⟨D, h1, h2, h3, h4⟩ := h
  obtain ⟨w', e1, e2, e3⟩ := h1.drop law24 hT (key32 hr) ty
  refine ⟨w', e1, ⟨_, e2, fun i hi => ?_, fun i hi => ?_, ?_⟩, (Foot.of_grown e3.grown).mono (fun i _ e => by cases e; rfl)⟩
  · by_cases hir : i = r
    · subst hir
      rw [atKey_del_same]
      simp [upd]
    · rw [atKey_del_other (key_ne hir), h2 i hi]
      simp [upd, hir]
  · by_cases hir : i = r
    · subst hir
      rw [has_del_same]
      simp [upd]
    · rw [has_del_other (key_ne hir), h3 i hi]
      simp [upd, hir]
  · have := size_del (k := .int .u32 (r : Int)) (h1.tidy law24)
    rw [h3 r hr, h4] at this
    omega

theorem MapF.made (w : World) : MapF T E q (w.alloc (.map #[] 0)) w.heap.size 0 (fun _ => 0) (fun _ => false) 0 :=
  ⟨_, World.ownsMap_made w _ _ _, fun r _ => by rw [atKey_of_not_has (by simp [Maps.has_eq])]; rfl, fun r _ => by simp [Maps.has_eq], rfl⟩
end
end Go.Proofs.Qxb6605852a
