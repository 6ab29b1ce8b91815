import Derived.Test.Qxb6605818aFmtMapK
import Derived.WideKeyPair
namespace Go.Proofs.Qxb6605818aFmt
open Go.RowKit Go.Maps Go.WideElems Go.ChangeMaps Go.MapKept Go.WideShapes Go.WideMaps
set_option linter.unusedVariables false

theorem laidOut : laidOutB Tryf.prog = true := by kernel_rfl
theorem row50 : (50 : TypeId) < Tryf.prog.types.size := of_decide_eq_true (by kernel_rfl)
theorem cells50 : Tryf.prog.cellsOf 50 = 2 := by kernel_rfl
theorem u50 : Tryf.prog.underlying 50 = some (.array 2 3) := by kernel_rfl
theorem arr50 : ArrKey Tryf.prog 50 3 2 := ⟨u50, by kernel_rfl, by kernel_rfl, cells50⟩
theorem wide50 : (match Tryf.prog.underlying 50 with | some (.array _ _) | some (.struct _) => true | _ => false) = true := by rw [u50]
set_option maxRecDepth 100000 in
theorem law50 : KeyLaw Tryf.prog 50 := deep_law_laid laidOut (m := 2) (by omega) row50 (by kernel_rfl) wide50
theorem keyed50 : Keyed Tryf.prog 50 := Keyed.of_law law50

/-- The key of a pair. -/
def kp (a : Nat × Nat) : Value := .agg #[.int .i64 (a.1 : Nat), .int .i64 (a.2 : Nat)]
def domp (a : Nat × Nat) : Prop := a.1 ≤ 1000000 ∧ a.2 ≤ 1000000
theorem kp_key (a : Nat × Nat) (h : domp a) : ∃ l, keyOf Tryf.prog 50 (kp a) = some l := by
  obtain ⟨a, b⟩ := a
  obtain ⟨h1, h2⟩ := h
  simp only at h1 h2
  have hr : ∃ m, Tryf.prog.types.size = m + 1 := by
    have hr := row50
    cases hh : Tryf.prog.types.size with
    | zero => rw [hh] at hr; exact absurd hr (Nat.not_lt_zero _)
    | succ m => exact ⟨m, rfl⟩
  have hw : ∀ x : Nat, x ≤ 1000000 → (Lit.int .i64 (x : Nat)).wf = true := fun x hx => by
    simp only [Lit.wf, Bool.and_eq_true, decide_eq_true_eq]
    have h1 : IntKind.i64.min = -9223372036854775808 := by decide
    have h2 : IntKind.i64.max = 9223372036854775807 := by decide
    rw [h1, h2]
    omega
  exact ⟨_, keyOf_pair arr50 (by kernel_rfl) hr (hw _ h1) (hw _ h2)⟩
theorem kp_inj (a c : Nat × Nat) (h : kp a = kp c) : a = c := by
  obtain ⟨a, b⟩ := a
  obtain ⟨c, d⟩ := c
  simp [kp] at h
  obtain ⟨h1, h2⟩ := h
  have : a = c := by omega
  have : b = d := by omega
  simp [*]

section
variable {κ : Type} {kv : κ → Value} {dom : κ → Prop} {KT : TypeId} {z : Value} {w w' : World} {b n : Nat} {f : κ → Value} {hs : κ → Bool}
theorem MapK.of_block (h : MapK kv dom KT z w b n f hs) (e : w'.heap[b]? = w.heap[b]?) : MapK kv dom KT z w' b n f hs := by
  obtain ⟨D, ⟨es, c, h1, h2⟩, h3⟩ := h
  exact ⟨D, ⟨es, c, e.trans h1, h2⟩, h3⟩

theorem foot_setBlock (w : World) (b : Nat) (o : Obj) : Foot (fun k => k = b) w (setBlock w b o) :=
  ⟨rfl, rfl, rfl, by simp [setBlock], fun i _ hn => by simp [setBlock, Array.getElem?_setIfInBounds]; intro e; exact absurd e.symm hn⟩

/-- 'm[k] += ..': the entry is found or made, then written. -/
theorem MapK.entry [DecidableEq κ] {T E : TypeId} (h : MapK kv dom KT z w b n f hs) (K : KeyLaw Tryf.prog KT) (hinj : ∀ a c, kv a = kv c → a = c) (hT : Tryf.prog.underlying T = some (.map KT E)) (hz : ∀ u, (zeroValue E).run Tryf.prog u = .ok z u) (hn : n < maxLen) (a : κ) (ha : dom a) :
    ∃ (st : Nat) (w1 : World), (Instr.mapEntry T (.map (some b)) (kv a)).run Tryf.prog w = .ok (.tuple #[f a, .int .i64 (st : Nat)]) w1 ∧ (∃ hs', MapK kv dom KT z w1 b (n + 1) f hs') ∧ Foot (fun k => k = b) w w1 ∧
      ∀ (w2 : World) (x : Value), w2.heap[b]? = w1.heap[b]? → ∃ w3, (Instr.entryStore T (.map (some b)) (.int .i64 (st : Nat)) x).run Tryf.prog w2 = .ok () w3 ∧ (∃ hs', MapK kv dom KT z w3 b (n + 1) (upd f a x) hs') ∧ Foot (fun k => k = b) w2 w3 := by
  have hK := Keyed.of_law K
  have hl := h.look hK hT (hz w) a ha
  have hput := fun x => h.put hK hinj hT hn a ha x
  have hbk := h
  obtain ⟨D, ⟨es, clock, hb, F, hs1, hD⟩, h2⟩ := hbk
  obtain ⟨l, k1, k2, k3⟩ := h2 a ha
  obtain ⟨v0, st, es1, clock1, hE, hcase, hS⟩ := entry_then_store (w := w) K hT hz hb F k1
  have hw1 : v0 = f a ∧ ∃ hs', MapK kv dom KT z (setBlock w b (.map es1 clock1)) b (n + 1) f hs' := by
    rcases K.find w k1 es.toList F.keys with ⟨h1, h2'⟩ | ⟨j, e0, h1, h2', h3⟩
    · have hlk : (Instr.lookup T (.map (some b)) (kv a) false).run Tryf.prog w = .ok z w := by
        simp [Instr.lookup, run_underlying hT, MapKept.run_getObj_map hb, K.check w _ k1, h1, hz, Result.andThen]
      have hfz : f a = z := by
        rw [hl] at hlk
        injection hlk
      have hen : (Instr.mapEntry T (.map (some b)) (kv a)).run Tryf.prog w = .ok (.tuple #[z, goInt clock]) (setBlock w b (.map (es.push ⟨kv a, z, clock⟩) (clock + 1))) := by
        simp [Instr.mapEntry, run_underlying hT, MapKept.run_getObj_map hb, K.check w false k1, h1, hz, MapKept.run_setObj_map _ hb, Result.andThen, setBlock]
      have hup : (Instr.mapUpdate T (.map (some b)) (kv a) z).run Tryf.prog w = .ok () (setBlock w b (.map (es.push ⟨kv a, z, clock⟩) (clock + 1))) := by
        simp [Instr.mapUpdate, run_underlying hT, MapKept.run_getObj_map hb, K.check w false k1, h1, MapKept.run_setObj_map _ hb, Result.andThen, setBlock]
      rw [hE] at hen
      injection hen with hen1 hen2
      obtain ⟨w', e1, e2, e3⟩ := hput z
      rw [hup] at e1
      injection e1 with _ e1
      have hfu : upd f a z = f := by
        funext y
        by_cases hy : y = a
        · subst hy; rw [upd_same, hfz]
        · rw [upd_other _ _ hy]
      rw [hfu] at e2
      refine ⟨?_, _, by rw [hen2, e1]; exact e2⟩
      simp at hen1
      rw [hen1.1, hfz]
    · have hj : es[j]? = some e0 := by simpa using h2'
      have hlk : (Instr.lookup T (.map (some b)) (kv a) false).run Tryf.prog w = .ok e0.val w := by
        simp [Instr.lookup, run_underlying hT, MapKept.run_getObj_map hb, K.check w _ k1, h1, Result.andThen]
      have hfz : f a = e0.val := by
        rw [hl] at hlk
        injection hlk
      have hsame : es.modify j (fun e => { e with key := kv a }) = es := by
        apply Array.ext'
        rw [Array.toList_modify, modify_eq_set _ _ _ _ h2']
        have : ({ e0 with key := kv a } : MapEntry) = e0 := by rw [← h3]
        rw [this]
        exact set_self _ _ _ h2'
      have hen : (Instr.mapEntry T (.map (some b)) (kv a)).run Tryf.prog w = .ok (.tuple #[e0.val, goInt e0.born]) (setBlock w b (.map es clock)) := by
        simp [Instr.mapEntry, run_underlying hT, MapKept.run_getObj_map hb, K.check w false k1, h1, hj, h3, K.stays w k1, hsame, MapKept.run_setObj_map _ hb, Result.andThen, setBlock]
      rw [hE] at hen
      injection hen with hen1 hen2
      refine ⟨?_, _, (h.mono (Nat.le_succ n)).of_block ?_⟩
      · simp at hen1
        rw [hen1.1, hfz]
      · rw [hen2, heap_setBlock_same hb, hb]
  obtain ⟨rfl, hw1⟩ := hw1
  refine ⟨st, _, hE, hw1, foot_setBlock _ _ _, fun w2 x hw2 => ?_⟩
  obtain ⟨es', clock', e1, e2⟩ := hS w2 x (by rw [hw2]; exact heap_setBlock_same hb _)
  obtain ⟨w', g1, g2, g3⟩ := hput x
  rw [e2] at g1
  injection g1 with _ g1
  refine ⟨_, e1, ⟨_, g2.of_block ?_⟩, foot_setBlock _ _ _⟩
  rw [← g1, heap_setBlock_same hb]
  exact heap_setBlock_same (by rw [hw2]; exact heap_setBlock_same hb _) _
end
end Go.Proofs.Qxb6605818aFmt
