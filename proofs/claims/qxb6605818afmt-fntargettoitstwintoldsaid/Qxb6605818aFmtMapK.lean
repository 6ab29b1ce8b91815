import Derived.Test.Qxb6605818aFmtSmall
import Derived.Maps.OwnSet
import Derived.Maps.Views
import Derived.DeepKeys4
import Derived.WideKeyEntry
namespace Go.Proofs.Qxb6605818aFmt
open Go.RowKit Go.Maps
set_option linter.unusedVariables false

/-- w' is w, but for the blocks of S and new ones. -/
structure Foot (S : Nat → Prop) (w w' : World) : Prop where
  os : w'.os = w.os
  tape : w'.tape = w.tape
  output : w'.output = w.output
  size : w.heap.size ≤ w'.heap.size
  block : ∀ k, k < w.heap.size → ¬ S k → w'.heap[k]? = w.heap[k]?

theorem Foot.refl (S : Nat → Prop) (w : World) : Foot S w w := ⟨rfl, rfl, rfl, Nat.le_refl _, fun _ _ _ => rfl⟩
theorem Foot.trans {S S' : Nat → Prop} {a b c : World} (h : Foot S a b) (k : Foot S' b c) (hs : ∀ i, i < a.heap.size → S' i → S i) : Foot S a c :=
  ⟨k.os.trans h.os, k.tape.trans h.tape, k.output.trans h.output, Nat.le_trans h.size k.size, fun i hi hn => (k.block i (Nat.lt_of_lt_of_le hi h.size) (fun e => hn (hs i hi e))).trans (h.block i hi hn)⟩
theorem Foot.mono {S S' : Nat → Prop} {a b : World} (h : Foot S a b) (hs : ∀ i, i < a.heap.size → S i → S' i) : Foot S' a b :=
  ⟨h.os, h.tape, h.output, h.size, fun i hi hn => h.block i hi (fun e => hn (hs i hi e))⟩
theorem Foot.of_below {S : Nat → Prop} {a b : World} (h : Below a.heap.size a b) : Foot S a b := ⟨h.os, h.tape, h.output, h.size, fun i hi _ => h.block i hi⟩
theorem Foot.of_grown {a b : World} {row : Option Nat} (h : a.grownBy b row) : Foot (fun k => row = some k) a b := ⟨h.os, h.tape, h.output, h.size, fun i hi hn => h.block i hi (fun e => hn e.symm)⟩
theorem Foot.setCell (w : World) (p : Addr) (v : Value) : Foot (fun k => k = p.block) w (w.setCell p v) :=
  ⟨rfl, rfl, rfl, by simp [World.setCell], fun i _ hn => Below.heap_setCell _ _ _ _ (fun e => hn e)⟩
theorem Foot.alloc (S : Nat → Prop) (w : World) (o : Obj) : Foot S w (w.alloc o) := Foot.of_below ((Below.refl _ _).alloc (Nat.le_refl _) o)
theorem Foot.drew {S : Nat → Prop} {a b : World} (h : Foot S a b) : Foot S a b.drew := ⟨h.os, h.tape, h.output, h.size, h.block⟩
theorem Foot.below {S : Nat → Prop} {a b : World} (h : Foot S a b) {B : Nat} (hB : B ≤ a.heap.size) (hS : ∀ k, S k → B ≤ k) : Below B a b :=
  ⟨h.os, h.tape, h.output, h.size, fun i hi => h.block i (by omega) (fun e => by have := hS i e; omega)⟩
theorem Foot.cell {S : Nat → Prop} {a b : World} (h : Foot S a b) {p : Addr} {v : Value} (hc : a.cell? p = some v) (hn : ¬ S p.block) : b.cell? p = some v :=
  (World.cell?_of_block (w := a) (h.block p.block (cell_lt hc) hn)).trans hc

def upd {κ α : Type} [DecidableEq κ] (f : κ → α) (r : κ) (x : α) : κ → α := fun i => if i = r then x else f i
theorem upd_same {κ α : Type} [DecidableEq κ] (f : κ → α) (r : κ) (x : α) : upd f r x r = x := by simp [upd]
theorem upd_other {κ α : Type} [DecidableEq κ] (f : κ → α) {r i : κ} (x : α) (h : i ≠ r) : upd f r x i = f i := by simp [upd, h]

/-- How an element reads: as itself. -/
def asIs (v : Value) : Option (DataW Value × List MemPlace) := some (.held v, [])

/-- Block b is a map: f says what it holds at each key (z where nothing), hs whether there is an entry. -/
def MapK {κ : Type} (kv : κ → Value) (dom : κ → Prop) (KT : TypeId) (z : Value) (w : World) (b n : Nat) (f : κ → Value) (hs : κ → Bool) : Prop :=
  ∃ D : DataW Value, w.ownsMap Tryf.prog KT asIs b n D ∧ ∀ a, dom a → ∃ l, keyOf Tryf.prog KT (kv a) = some l ∧ D.atKey l (.held z) = .held (f a) ∧ Maps.has D l = hs a

section
variable {κ : Type} {kv : κ → Value} {dom : κ → Prop} {KT : TypeId} {z : Value} {w w' : World} {b n : Nat} {f : κ → Value} {hs : κ → Bool}

theorem MapK.lt (h : MapK kv dom KT z w b n f hs) : b < w.heap.size := by obtain ⟨D, h, _⟩ := h; exact h.lt
theorem MapK.kept {S : Nat → Prop} (h : MapK kv dom KT z w b n f hs) (hf : Foot S w w') (hn : ¬ S b) : MapK kv dom KT z w' b n f hs := by
  obtain ⟨D, ⟨es, c, h1, h2⟩, h3⟩ := h
  exact ⟨D, ⟨es, c, (hf.block b (Array.getElem?_eq_some_iff.1 h1).1 hn).trans h1, h2⟩, h3⟩
theorem MapK.mono (h : MapK kv dom KT z w b n f hs) {n' : Nat} (hn : n ≤ n') : MapK kv dom KT z w b n' f hs := by
  obtain ⟨D, h, h3⟩ := h
  exact ⟨D, h.mono hn, h3⟩
theorem MapK.is_map (h : MapK kv dom KT z w b n f hs) : ∃ es c, w.heap[b]? = some (.map es c) := by obtain ⟨D, ⟨es, c, h, _⟩, _⟩ := h; exact ⟨es, c, h⟩

theorem MapK.look {T E : TypeId} (h : MapK kv dom KT z w b n f hs) (K : Keyed Tryf.prog KT) (hT : Tryf.prog.underlying T = some (.map KT E)) (hz : (zeroValue E).run Tryf.prog w = .ok z w) (a : κ) (ha : dom a) :
    (Instr.lookup T (.map (some b)) (kv a) false).run Tryf.prog w = .ok (f a) w := by
  obtain ⟨D, h1, h2⟩ := h
  obtain ⟨l, k1, k2, k3⟩ := h2 a ha
  obtain ⟨v, ps, e1, e2⟩ := h1.lookup K hT hz (show asIs z = some (.held z, []) from rfl) k1
  rw [k2] at e2
  simp only [asIs, Option.some.injEq, Prod.mk.injEq, DataW.held.injEq] at e2
  rw [e1, e2.1]

theorem MapK.look_ok {T E : TypeId} (h : MapK kv dom KT z w b n f hs) (K : Keyed Tryf.prog KT) (hT : Tryf.prog.underlying T = some (.map KT E)) (hz : (zeroValue E).run Tryf.prog w = .ok z w) (a : κ) (ha : dom a) :
    (Instr.lookup T (.map (some b)) (kv a) true).run Tryf.prog w = .ok (.tuple #[f a, .bool (hs a)]) w := by
  obtain ⟨D, h1, h2⟩ := h
  obtain ⟨l, k1, k2, k3⟩ := h2 a ha
  obtain ⟨v, ps, e1, e2⟩ := h1.look_ok K hT hz (show asIs z = some (.held z, []) from rfl) k1
  rw [k2] at e2
  simp only [asIs, Option.some.injEq, Prod.mk.injEq, DataW.held.injEq] at e2
  rw [e1, e2.1, k3]

theorem MapK.put [DecidableEq κ] {T E : TypeId} (h : MapK kv dom KT z w b n f hs) (K : Keyed Tryf.prog KT) (hinj : ∀ a c, kv a = kv c → a = c) (hT : Tryf.prog.underlying T = some (.map KT E)) (hn : n < maxLen) (a : κ) (ha : dom a) (x : Value) :
    ∃ w', (Instr.mapUpdate T (.map (some b)) (kv a) x).run Tryf.prog w = .ok () w' ∧ MapK kv dom KT z w' b (n + 1) (upd f a x) (upd hs a true) ∧ Foot (fun k => k = b) w w' := by
  obtain ⟨D, h1, h2⟩ := h
  obtain ⟨l, k1, k2, k3⟩ := h2 a ha
  obtain ⟨w', e1, e2, e3⟩ := h1.store K hT hn k1 (show asIs x = some (.held x, []) from rfl)
  refine ⟨w', e1, ⟨_, e2, fun c hc => ?_⟩, (Foot.of_grown e3.grown).mono (fun i _ e => by cases e; rfl)⟩
  by_cases hca : c = a
  · subst hca
    exact ⟨l, k1, by rw [atKey_put_same h1.isMap (K.key k1), upd_same], by rw [has_put_same h1.isMap (K.key k1), upd_same]⟩
  · obtain ⟨l', j1, j2, j3⟩ := h2 c hc
    have hne : l' ≠ l := fun e => by
      subst e
      exact hca (hinj _ _ (K.inj j1 k1))
    exact ⟨l', j1, by rw [atKey_put_other hne, upd_other _ _ hca, j2], by rw [has_put_other hne, upd_other _ _ hca, j3]⟩

theorem MapK.made (w : World) (hd : ∀ a, dom a → ∃ l, keyOf Tryf.prog KT (kv a) = some l) : MapK kv dom KT z (w.alloc (.map #[] 0)) w.heap.size 0 (fun _ => z) (fun _ => false) :=
  ⟨_, World.ownsMap_made w _ _ _, fun a ha => by
    obtain ⟨l, hl⟩ := hd a ha
    exact ⟨l, hl, by rw [atKey_of_not_has (by simp [Maps.has_eq])], by simp [Maps.has_eq]⟩⟩
end

/-! ### The program's own maps -/
theorem u9 : Tryf.prog.underlying 9 = some .string := by kernel_rfl
theorem u73 : Tryf.prog.underlying 73 = some (.map 9 3) := by kernel_rfl
theorem u86 : Tryf.prog.underlying 86 = some (.map 9 4) := by kernel_rfl
theorem u89 : Tryf.prog.underlying 89 = some (.map 9 22) := by kernel_rfl
theorem u49 : Tryf.prog.underlying 49 = some (.map 50 3) := by kernel_rfl
theorem zero3 (w : World) : (zeroValue 3).run Tryf.prog w = .ok (.int .i64 0) w := by kernel_rfl
theorem zero4 (w : World) : (zeroValue 4).run Tryf.prog w = .ok (.bool false) w := by kernel_rfl
theorem zero22 (w : World) : (zeroValue 22).run Tryf.prog w = .ok (.slice none 0 0) w := by kernel_rfl
theorem law9 : Keyed Tryf.prog 9 := string_keyed u9
def strKey (s : ByteArray) : Prop := s.size ≤ maxLen
theorem strKey_ok (s : ByteArray) (h : strKey s) : ∃ l, keyOf Tryf.prog 9 (.string s) = some l := ⟨_, WideMaps.keyOf_string_mk u9 h⟩
theorem str_inj (a c : ByteArray) (h : Value.string a = .string c) : a = c := by cases h; rfl
end Go.Proofs.Qxb6605818aFmt
