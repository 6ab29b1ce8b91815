import Derived.Test.Qxb6605818aFmtBefore
namespace Go.Proofs.Qxb6605818aFmt
open Go.RowKit Go.Maps
set_option linter.unusedVariables false

/-- sortBefore's closure. -/
def clo (B : Nat) : Value := .func (.func 34) #[] #[.pointer (some ⟨B + 3, 0, none⟩), .pointer (some ⟨B + 5, 0, none⟩), .pointer (some ⟨B, 0, none⟩), .pointer (some ⟨B + 6, 0, none⟩), .pointer (some ⟨B + 1, 0, none⟩)]

/-- sortBefore's variables in memory, its blocks from B on: before's box, the sequence's, the state's map and box, the path's box, the closure's. -/
structure SortSt (B bm : Nat) (w : World) (pv qv : Value) (path seq : List ByteArray) (st : ByteArray → Nat) (n : Nat) : Prop where
  bef : w.rowIs B 89 1 (fun _ => .map (some bm))
  sqb : w.rowIs (B + 1) 22 1 (fun _ => qv)
  mp : ∃ hs, MapK Value.string strKey 9 (.int .i64 0) w (B + 2) n (fun x => .int .i64 (st x : Nat)) hs
  stb : w.rowIs (B + 3) 73 1 (fun _ => .map (some (B + 2)))
  ptb : w.rowIs (B + 5) 22 1 (fun _ => pv)
  clb : w.rowIs (B + 6) 93 1 (fun _ => clo B)
  pown : Own B 9 w pv (path.map Value.string)
  qown : Own B 9 w qv (seq.map Value.string)
  sep : ∀ b, pv.ownBlock = some b → qv.ownBlock ≠ some b

section
variable {B bm : Nat} {w w' : World} {pv qv : Value} {path seq : List ByteArray} {st : ByteArray → Nat} {n : Nat}

theorem SortSt.kept {S : Nat → Prop} (h : SortSt B bm w pv qv path seq st n) (hF : Foot S w w') (h0 : ¬ S B) (h1 : ¬ S (B + 1)) (h2 : ¬ S (B + 2)) (h3 : ¬ S (B + 3)) (h5 : ¬ S (B + 5)) (h6 : ¬ S (B + 6)) (hp : ∀ b, pv.ownBlock = some b → ¬ S b) (hq : ∀ b, qv.ownBlock = some b → ¬ S b) : SortSt B bm w' pv qv path seq st n := by
  obtain ⟨hs, hM⟩ := h.mp
  exact ⟨h.bef.of_block (hF.block _ h.bef.lt h0), h.sqb.of_block (hF.block _ h.sqb.lt h1), ⟨hs, hM.kept hF h2⟩, h.stb.of_block (hF.block _ h.stb.lt h3), h.ptb.of_block (hF.block _ h.ptb.lt h5), h.clb.of_block (hF.block _ h.clb.lt h6), h.pown.kept hF hp, h.qown.kept hF hq, h.sep⟩
theorem SortSt.new (h : SortSt B bm w pv qv path seq st n) (hB : Below w.heap.size w w') : SortSt B bm w' pv qv path seq st n :=
  h.kept (S := fun _ => False) (Foot.of_below hB) id id id id id id (fun _ _ => id) (fun _ _ => id)

theorem SortSt.look (h : SortSt B bm w pv qv path seq st n) (x : ByteArray) (hx : strKey x) : (Instr.lookup 73 (.map (some (B + 2))) (.string x) false).run Tryf.prog w = .ok (.int .i64 (st x : Nat)) w := by
  obtain ⟨hs, hM⟩ := h.mp
  exact hM.look law9 u73 (zero3 w) x hx

theorem SortSt.ne_p (h : SortSt B bm w pv qv path seq st n) {b : Nat} (hb : pv.ownBlock = some b) : b ≠ B ∧ b ≠ B + 1 ∧ b ≠ B + 2 ∧ b ≠ B + 3 ∧ b ≠ B + 5 ∧ b ≠ B + 6 := by
  obtain ⟨hs, hM⟩ := h.mp
  exact ⟨h.pown.ne hb h.bef (by decide), h.pown.ne hb h.sqb (by decide), h.pown.ne_map hb hM, h.pown.ne hb h.stb (by decide), h.pown.ne hb h.ptb (by decide), h.pown.ne hb h.clb (by decide)⟩
theorem SortSt.ne_q (h : SortSt B bm w pv qv path seq st n) {b : Nat} (hb : qv.ownBlock = some b) : b ≠ B ∧ b ≠ B + 1 ∧ b ≠ B + 2 ∧ b ≠ B + 3 ∧ b ≠ B + 5 ∧ b ≠ B + 6 := by
  obtain ⟨hs, hM⟩ := h.mp
  exact ⟨h.qown.ne hb h.bef (by decide), h.qown.ne hb h.sqb (by decide), h.qown.ne_map hb hM, h.qown.ne hb h.stb (by decide), h.qown.ne hb h.ptb (by decide), h.qown.ne hb h.clb (by decide)⟩

/-- 'state[x] = v'. -/
theorem SortSt.put (h : SortSt B bm w pv qv path seq st n) (x : ByteArray) (hx : strKey x) (v : Nat) (hn : n ≤ 1000000) :
    ∃ w', (Instr.mapUpdate 73 (.map (some (B + 2))) (.string x) (.int .i64 (v : Nat))).run Tryf.prog w = .ok () w' ∧ SortSt B bm w' pv qv path seq (upd st x v) (n + 1) ∧ Foot (fun k => k = B + 2) w w' := by
  obtain ⟨hs, hM⟩ := h.mp
  obtain ⟨w', e1, e2, e3⟩ := hM.put law9 str_inj u73 (by unfold maxLen; omega) x hx (.int .i64 (v : Nat))
  have hf : upd (fun x => Value.int .i64 (st x : Nat)) x (.int .i64 (v : Nat)) = fun y => .int .i64 (upd st x v y : Nat) := by
    funext y
    by_cases e : y = x
    · subst e; rw [upd_same, upd_same]
    · rw [upd_other _ _ e, upd_other _ _ e]
  rw [hf] at e2
  exact ⟨w', e1, ⟨h.bef.of_block (e3.block _ h.bef.lt (by omega)), h.sqb.of_block (e3.block _ h.sqb.lt (by omega)), ⟨_, e2⟩, h.stb.of_block (e3.block _ h.stb.lt (by omega)), h.ptb.of_block (e3.block _ h.ptb.lt (by omega)), h.clb.of_block (e3.block _ h.clb.lt (by omega)), h.pown.kept e3 (fun b hb e => (h.ne_p hb).2.2.1 e), h.qown.kept e3 (fun b hb e => (h.ne_q hb).2.2.1 e), h.sep⟩, e3⟩

/-- 'path = append(path, x)'. -/
theorem SortSt.push (h : SortSt B bm w pv qv path seq st n) (x : ByteArray) (hl : path.length ≤ 1000000) :
    ∃ pv' w', (∀ ty, (Builtin.append_ #[22, 22] ty #[pv, .slice (some ⟨w.heap.size, 0, none⟩) 1 1]).run Tryf.prog (w.alloc (.cells #[.string x] 9)) = .ok pv' w') ∧ SortSt B bm (w'.setCell ⟨B + 5, 0, none⟩ pv') pv' qv (path ++ [x]) seq st n ∧ w'.cell? ⟨B + 5, 0, none⟩ = some pv ∧ w'.frozen? ⟨B + 5, 0, none⟩ = false ∧ Below B w (w'.setCell ⟨B + 5, 0, none⟩ pv') ∧ (∃ g c, pv' = .slice (some ⟨g, 0, none⟩) (path.length + 1) c) := by
  obtain ⟨v', w', e1, e2, e3, e4, e5⟩ := app1 (T := 22) _ _ Tryf.underlying22 info9 rfl (by omega) h.pown (.string x) rfl (by simp; omega) (by have := h.bef.lt; omega)
  have hs := e3.size
  have k : SortSt B bm w' pv qv path seq st n → True := fun _ => trivial
  have hblt := h.bef.lt
  obtain ⟨hsm, hM⟩ := h.mp
  have np := fun b hb => h.ne_p (b := b) hb
  have hpt : w'.rowIs (B + 5) 22 1 (fun _ => pv) := h.ptb.of_block (e3.block _ h.ptb.lt (fun e => (np _ e).2.2.2.2.1 rfl))
  have hFs := Foot.setCell w' ⟨B + 5, 0, none⟩ v'
  have hq' : Own B 9 w' qv (seq.map Value.string) := h.qown.kept e3 (fun b hb e => h.sep b e hb)
  have hv5 : ∀ b, v'.ownBlock = some b → b ≠ B + 5 := fun b hb => e2.ne hb hpt (by decide)
  refine ⟨v', w', e1, ⟨?_, ?_, ⟨hsm, ?_⟩, ?_, ?_, ?_, ?_, ?_, ?_⟩, hpt.cell (by omega), hpt.frozen 0, ?_, ?_⟩
  · exact (h.bef.of_block (e3.block _ h.bef.lt (fun e => (np _ e).1 rfl))).of_block (hFs.block _ (by omega) (by show ¬ B = B + 5; omega))
  · exact (h.sqb.of_block (e3.block _ h.sqb.lt (fun e => (np _ e).2.1 rfl))).of_block (hFs.block _ (by have := h.sqb.lt; omega) (by show ¬ B + 1 = B + 5; omega))
  · exact (hM.kept e3 (fun e => (np _ e).2.2.1 rfl)).kept hFs (by show ¬ B + 2 = B + 5; omega)
  · exact (h.stb.of_block (e3.block _ h.stb.lt (fun e => (np _ e).2.2.2.1 rfl))).of_block (hFs.block _ (by have := h.stb.lt; omega) (by show ¬ B + 3 = B + 5; omega))
  · exact (hpt.set 0 v').congr (fun i hi => by simp; omega)
  · exact (h.clb.of_block (e3.block _ h.clb.lt (fun e => (np _ e).2.2.2.2.2 rfl))).of_block (hFs.block _ (by have := h.clb.lt; omega) (by show ¬ B + 6 = B + 5; omega))
  · rw [List.map_append]
    exact e2.kept hFs (fun b hb e => hv5 b hb e)
  · exact hq'.kept hFs (fun b hb e => (h.ne_q hb).2.2.2.2.1 e)
  · intro b hb hb2
    rcases e4 with e | e
    · rw [e] at hb
      exact h.sep b hb hb2
    · rw [e] at hb
      cases hb
      have := (h.qown.lt hb2).2
      omega
  · exact ((e3.mono (S' := fun k => B ≤ k) (fun i _ e => (h.pown.lt e).1)).trans hFs (fun i _ e => by show B ≤ i; have : i = B + 5 := e; omega)).below (by omega) (fun k e => e)
  · simpa using e5
end
end Go.Proofs.Qxb6605818aFmt
