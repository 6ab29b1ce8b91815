import Derived.Test.Qxb6605818aFmtErrorf
import Derived.Maps.AppendAt
import Derived.WalkSmall
namespace Go.Proofs.Qxb6605818aFmt
open Go.RowKit Go.Maps
set_option linter.unusedVariables false

/-- The call owns slice v, elements of one cell and type e; they are xs. -/
def Own (base : Nat) (e : TypeId) (w : World) (v : Value) (xs : List Value) : Prop := w.ownsRow base e 1 v xs.length xs

section
variable {base : Nat} {e : TypeId} {w w' : World} {v : Value} {xs : List Value}

theorem Own.nil (base : Nat) (e : TypeId) (w : World) : Own base e w (.slice none 0 0) [] := World.ownsRow_nil w base e 1
theorem Own.lt (h : Own base e w v xs) {b : Nat} (hb : v.ownBlock = some b) : base ≤ b ∧ b < w.heap.size := World.ownsRow.lt h b hb
theorem Own.kept {S : Nat → Prop} (h : Own base e w v xs) (hF : Foot S w w') (hn : ∀ b, v.ownBlock = some b → ¬ S b) : Own base e w' v xs := by
  obtain ⟨h1, h2 | ⟨g, cap, cur, rfl, k1, k2, k3⟩⟩ := h
  · exact ⟨h1, .inl h2⟩
  · exact ⟨h1, .inr ⟨g, cap, cur, rfl, k1, (hF.block g (block_lt k2) (hn g rfl)).trans k2, k3⟩⟩
theorem Own.below (h : Own base e w v xs) (hB : Below w.heap.size w w') : Own base e w' v xs := h.kept (S := fun _ => False) (Foot.of_below hB) (fun _ _ e => e)
theorem Own.heap (h : Own base e w v xs) {b : Nat} (hb : v.ownBlock = some b) : ∃ cur, w.heap[b]? = some (.cells cur e (0, 0)) := by
  obtain ⟨h1, ⟨rfl, _⟩ | ⟨g, cap, cur, rfl, k1, k2, k3⟩⟩ := h
  · simp [Value.ownBlock] at hb
  · simp only [Value.ownBlock, Option.some.injEq] at hb
    subst hb
    exact ⟨cur, k2⟩
/-- Another type's row is another block. -/
theorem Own.ne (h : Own base e w v xs) {b c n : Nat} {t : TypeId} {f : Nat → Value} (hb : v.ownBlock = some b) (hr : w.rowIs c t n f) (ht : t ≠ e) : b ≠ c := by
  rintro rfl
  obtain ⟨cur, h1⟩ := h.heap hb
  obtain ⟨c', h2, _⟩ := hr
  rw [h1] at h2
  simp at h2
  exact ht h2.2.symm
theorem Own.ne_map {κ : Type} {kv : κ → Value} {dom : κ → Prop} {KT : TypeId} {z : Value} {m n : Nat} {f : κ → Value} {hs : κ → Bool} (h : Own base e w v xs) {b : Nat} (hb : v.ownBlock = some b) (hm : MapK kv dom KT z w m n f hs) : b ≠ m := by
  rintro rfl
  obtain ⟨cur, h1⟩ := h.heap hb
  obtain ⟨es, c, h2⟩ := hm.is_map
  rw [h1] at h2
  simp at h2
theorem Own.shape (h : Own base e w v xs) : ∃ a c, v = .slice a xs.length c ∧ (a = none → xs = [] ∧ c = 0) ∧ ∀ x, a = some x → x = ⟨x.block, 0, none⟩ ∧ v.ownBlock = some x.block := by
  obtain ⟨h1, ⟨rfl, h0⟩ | ⟨g, cap, cur, rfl, k1, k2, k3⟩⟩ := h
  · have : xs = [] := List.eq_nil_of_length_eq_zero h0
    subst this
    exact ⟨none, 0, rfl, fun _ => ⟨rfl, rfl⟩, fun x hx => (by cases hx)⟩
  · refine ⟨some ⟨g, 0, none⟩, cap, rfl, fun h => ?_, fun x hx => ?_⟩
    · cases h
    · cases hx
      exact ⟨rfl, rfl⟩
theorem Own.reads (h : Own base e w v xs) {a : Option Addr} {l c : Nat} (hv : v = .slice a l c) : l = xs.length ∧ Sl w a l (fun i => xs.getD i (.bool false)) := by
  subst hv
  obtain ⟨h1, ⟨hv, h0⟩ | ⟨g, cap, cur, hv, k1, k2, k3, k4, k5, k6⟩⟩ := h
  · cases hv
    exact ⟨h0.symm, fun i hi => absurd hi (by omega)⟩
  · cases hv
    refine ⟨rfl, fun i hi => ⟨_, rfl, ?_⟩⟩
    have hh : Own base e w (.slice (some ⟨g, 0, none⟩) xs.length c) xs := ⟨h1, .inr ⟨g, c, cur, rfl, k1, k2, k3, k4, k5, k6⟩⟩
    have := World.ownsRow.cellAt hh i (by omega)
    rw [Addr.add_lit, Nat.zero_add, this]
    simp [List.getD, hi]

/-- 'append(v, x)': the one-element slice was just built. -/
theorem app1 (T : TypeId) (z : Value) (bytes : Nat) (hT : Tryf.prog.underlying T = some (.slice e)) (hinfo : (Tryf.prog.info? e).map (fun i => (i.zero, i.size, i.bytes)) = some (some z, 1, bytes)) (hz1 : z.cells = #[z]) (hby : bytes ≤ 64)
    (h : Own base e w v xs) (x : Value) (hx : x.oneCell' = true) (hl : xs.length ≤ 1000000000) (hbase : base ≤ w.heap.size) :
    ∃ v' w', (∀ ty, (Builtin.append_ #[T, T] ty #[v, .slice (some ⟨w.heap.size, 0, none⟩) 1 1]).run Tryf.prog (w.alloc (.cells #[x] e)) = .ok v' w') ∧ Own base e w' v' (xs ++ [x]) ∧ Foot (fun k => v.ownBlock = some k) w w' ∧ (v'.ownBlock = v.ownBlock ∨ v'.ownBlock = some (w.heap.size + 1)) ∧ (∃ g c, v' = .slice (some ⟨g, 0, none⟩) (xs.length + 1) c) := by
  obtain ⟨i, hi, hz, h1, h2⟩ := info_parts hinfo
  have hal : Below w.heap.size w (w.alloc (.cells #[x] e)) := (Below.refl _ _).alloc (Nat.le_refl _) _
  have h' : Own base e (w.alloc (.cells #[x] e)) v xs := h.below hal
  have hb : (w.alloc (.cells #[x] e)).heap[w.heap.size]? = some (.cells #[x] e (0, 0)) := by
    show (w.heap.push _)[w.heap.size]? = _
    simp
  have key := fun ty => run_append_own_at (P := Tryf.prog) (w := w.alloc (.cells #[x] e)) base T ty e i z 1 bytes hT hi hz h1 h2 (by rw [hz1]; rfl) (by omega) v xs.length xs h' ⟨w.heap.size, 0, none⟩ 1 1 [x] (by simp) (fun j u hu => by
    have hj : j = 0 := by
      have := (List.getElem?_eq_some_iff.1 hu).1
      simpa using this
    subst hj
    simp at hu
    subst hu
    show (match (w.alloc (.cells #[x] e)).heap[w.heap.size]? with | some (.cells c _ _) => c[0]? | _ => none) = _
    rw [hb]
    rfl) (by simpa using hx) (by unfold maxLen; omega) (by
      have : (xs.length + 1) * bytes ≤ 1000000001 * 64 := Nat.mul_le_mul (by omega) hby
      omega) (by simp; omega)
  obtain ⟨v', w', e1, e2, e3, e4, e5⟩ := key T
  have hsz : (w.alloc (.cells #[x] e)).heap.size = w.heap.size + 1 := by simp
  rw [hsz] at e5
  have ho : Own base e w' v' (xs ++ [x]) := by unfold Own; simpa using e2
  refine ⟨v', w', fun ty => e1, ho, (Foot.alloc _ w _).trans (Foot.of_grown e3) (fun k _ e => e), e5, ?_⟩
  obtain ⟨a, c, hv, hn, hs⟩ := ho.shape
  cases a with
  | none => exact absurd (hn rfl).1 (by simp)
  | some y =>
    obtain ⟨hy, _⟩ := hs y rfl
    rw [hy] at hv
    exact ⟨y.block, c, by rw [hv]; simp⟩
end
end Go.Proofs.Qxb6605818aFmt
