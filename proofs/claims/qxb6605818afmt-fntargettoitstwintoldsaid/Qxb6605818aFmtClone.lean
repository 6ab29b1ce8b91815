import Derived.Test.Qxb6605818aFmtMask2
namespace Go.Proofs.Qxb6605818aFmt
open Go.RowKit Go.Maps
set_option linter.unusedVariables false

theorem wpList_cp {P : Program} {w : World} {ops : Array Oper} {rest : List Oper} {o : Oper} {a : Act} {Q : Exit → Act → World → Prop} (hg : o.guard = none) (s x : Operand) (t : TypeId) (hop : o.op = Op.call { callee := Callee.builtin Builtin.copy, args := #[s, x], argTypes := #[t, t] })
    (v1 v2 v : Value) (w1 : World) (hs : a.eval s = v1) (hx : a.eval x = v2) (hrun : ∀ ty, (Builtin.copy_ #[t, t] ty #[v1, v2]).run P w = .ok v w1) (hK : wpList P ops Q rest (a.put o.dst v) w1) : wpList P ops Q (o :: rest) a w := by
  refine wpList_plain hg fun K hK' => ?_
  unfold Oper.wp
  simp [execOp, hop, resolve, invoke, builtin, hs, hx, hrun, Result.andThen]
  exact hK' _ _ hK

theorem wpList_app {P : Program} {w : World} {ops : Array Oper} {rest : List Oper} {o : Oper} {a : Act} {Q : Exit → Act → World → Prop} (hg : o.guard = none) (s x : Operand) (t : TypeId) (hop : o.op = Op.call { callee := Callee.builtin Builtin.append, args := #[s, x], argTypes := #[t, t] })
    (v1 v2 v : Value) (w1 : World) (hs : a.eval s = v1) (hx : a.eval x = v2) (hrun : ∀ ty, (Builtin.append_ #[t, t] ty #[v1, v2]).run P w = .ok v w1) (hK : wpList P ops Q rest (a.put o.dst v) w1) : wpList P ops Q (o :: rest) a w := by
  refine wpList_plain hg fun K hK' => ?_
  unfold Oper.wp
  simp [execOp, hop, resolve, invoke, builtin, hs, hx, hrun, Result.andThen]
  exact hK' _ _ hK

/-- 'copy' into a row that was just made, whole. -/
theorem copy_whole (T e : TypeId) (hu : Tryf.prog.underlying T = some (.slice e)) (hsz : (Tryf.prog.info? e).map (·.size) = some 1) (zv : Value) (x : Addr) (n c : Nat) (f : Nat → Value) (h1 : ∀ i, (f i).oneCell' = true) (w : World) (h : Sl w (some x) n f) :
    ∃ w', (∀ ty, (Builtin.copy_ #[T, T] ty #[.slice (some ⟨w.heap.size, 0, none⟩) n n, .slice (some x) n c]).run Tryf.prog (w.alloc (.cells (madeCells #[zv] n) e)) = .ok (.int .i64 (n : Nat)) w') ∧ w'.rowIs w.heap.size e n f ∧ Below w.heap.size w w' := by
  have hb : (w.alloc (.cells (madeCells #[zv] n) e)).heap[w.heap.size]? = some (.cells (madeCells #[zv] n) e (0, 0)) := by
    show (w.heap.push _)[w.heap.size]? = _
    simp
  have hsize : (madeCells #[zv] n).size = n := size_madeCells _ _
  have hcs : ((List.range n).map f).length = n := by simp
  have hal : Below w.heap.size w (w.alloc (.cells (madeCells #[zv] n) e)) := (Below.refl _ _).alloc (Nat.le_refl _) _
  have key := fun ty => run_copy_row (P := Tryf.prog) (w.alloc (.cells (madeCells #[zv] n) e)) T T ty e w.heap.size 0 n n x n c (madeCells #[zv] n) e ((List.range n).map f) hu hsz hb (by rw [hcs]; exact (Nat.min_self n).symm) (fun j v hv => by
      have hj : j < n := by
        have := (List.getElem?_eq_some_iff.1 hv).1
        simpa using this
      have e : v = f j := by
        rw [List.getElem?_map, List.getElem?_range hj] at hv
        simpa using hv.symm
      subst e
      obtain ⟨y, hy, hc⟩ := h j hj
      cases hy
      exact (hal.cell (cell_lt hc)).trans hc) (by rw [hcs, hsize]; omega) (fun v hv => by
      obtain ⟨i, _, rfl⟩ := List.mem_map.1 hv
      exact h1 i)
  refine ⟨(w.alloc (.cells (madeCells #[zv] n) e)).setRow w.heap.size ((List.range n).map f).toArray, fun ty => ?_, ?_, ?_⟩
  · rw [key ty, hcs]
    have e1 : (madeCells #[zv] n).toList.take 0 ++ (List.range n).map f ++ (madeCells #[zv] n).toList.drop (0 + n) = (List.range n).map f := by
      rw [List.take_zero, List.nil_append, List.drop_of_length_le (by simp [hsize]), List.append_nil]
    rw [e1]
    rfl
  · refine ⟨_, setRow_heap _ _ _ _ _ _ hb, by simp, fun i hi => by simp [hi]⟩
  · exact hal.trans ⟨rfl, rfl, rfl, by simp [World.setRow], fun k hk => setRow_other _ _ _ _ (by omega)⟩

theorem eq_nil22 (w : World) : (binOp .eql 22 (.slice none 0 0) (.slice none 0 0)).run Tryf.prog w = .ok (.bool true) w := by kernel_rfl
theorem eq_some22 (x : Addr) (n c : Nat) (w : World) : (binOp .eql 22 (.slice (some x) n c) (.slice none 0 0)).run Tryf.prog w = .ok (.bool false) w := by kernel_rfl
theorem neq_nil22 (w : World) : (binOp .neq 22 (.slice none 0 0) (.slice none 0 0)).run Tryf.prog w = .ok (.bool false) w := by kernel_rfl
theorem neq_some22 (x : Addr) (n c : Nat) (w : World) : (binOp .neq 22 (.slice (some x) n c) (.slice none 0 0)).run Tryf.prog w = .ok (.bool true) w := by kernel_rfl
theorem eq_nil23 (w : World) : (binOp .eql 23 (.slice none 0 0) (.slice none 0 0)).run Tryf.prog w = .ok (.bool true) w := by kernel_rfl
theorem eq_some23 (x : Addr) (n c : Nat) (w : World) : (binOp .eql 23 (.slice (some x) n c) (.slice none 0 0)).run Tryf.prog w = .ok (.bool false) w := by kernel_rfl
theorem neq_nil23 (w : World) : (binOp .neq 23 (.slice none 0 0) (.slice none 0 0)).run Tryf.prog w = .ok (.bool false) w := by kernel_rfl
theorem neq_some23 (x : Addr) (n c : Nat) (w : World) : (binOp .neq 23 (.slice (some x) n c) (.slice none 0 0)).run Tryf.prog w = .ok (.bool true) w := by kernel_rfl
theorem eq_nil24 (w : World) : (binOp .eql 24 (.slice none 0 0) (.slice none 0 0)).run Tryf.prog w = .ok (.bool true) w := by kernel_rfl
theorem eq_some24 (x : Addr) (n c : Nat) (w : World) : (binOp .eql 24 (.slice (some x) n c) (.slice none 0 0)).run Tryf.prog w = .ok (.bool false) w := by kernel_rfl
theorem neq_nil24 (w : World) : (binOp .neq 24 (.slice none 0 0) (.slice none 0 0)).run Tryf.prog w = .ok (.bool false) w := by kernel_rfl
theorem neq_some24 (x : Addr) (n c : Nat) (w : World) : (binOp .neq 24 (.slice (some x) n c) (.slice none 0 0)).run Tryf.prog w = .ok (.bool true) w := by kernel_rfl
theorem eq_nil32 (w : World) : (binOp .eql 32 (.slice none 0 0) (.slice none 0 0)).run Tryf.prog w = .ok (.bool true) w := by kernel_rfl
theorem eq_some32 (x : Addr) (n c : Nat) (w : World) : (binOp .eql 32 (.slice (some x) n c) (.slice none 0 0)).run Tryf.prog w = .ok (.bool false) w := by kernel_rfl
theorem neq_nil32 (w : World) : (binOp .neq 32 (.slice none 0 0) (.slice none 0 0)).run Tryf.prog w = .ok (.bool false) w := by kernel_rfl
theorem neq_some32 (x : Addr) (n c : Nat) (w : World) : (binOp .neq 32 (.slice (some x) n c) (.slice none 0 0)).run Tryf.prog w = .ok (.bool true) w := by kernel_rfl

/-- What a clone gives: a slice that reads as the one that came. -/
def Cl (a : Option Addr) (len : Nat) (f : Nat → Value) (w : World) (e : Ending) (w' : World) : Prop := ∃ b, e = .returned (.slice b len len) ∧ Sl w' b len f ∧ (∀ x, b = some x → w.heap.size ≤ x.block) ∧ Below w.heap.size w w'

set_option maxHeartbeats 600000 in
theorem cloneStrings_any (a : Option Addr) (len cap : Nat) (s : Nat → ByteArray) (w : World) (hl : len ≤ 2000000) (hnil : a = none → len = 0 ∧ cap = 0) (h : Sl w a len (strV s)) :
    Calls Tryf.prog 8 #[.slice a len cap] w fun e w' => Cl a len (strV s) w e w' := by
  cases a with
  | none =>
    obtain ⟨rfl, rfl⟩ := hnil rfl
    have heq := eq_nil22
    clear h hnil
    go_enter Tryf.func8, Tryf.ntmps8
    go_wp2
    go_ret
    exact ⟨none, rfl, fun i hi => absurd hi (by omega), (fun x e => by cases e), Below.refl _ _⟩
  | some x =>
    obtain ⟨w2, hcp, hR, hB⟩ := copy_whole 22 9 Tryf.underlying22 (by kernel_rfl) (.string ⟨#[]⟩) x len cap (strV s) (fun _ => rfl) w h
    have heq := eq_some22 x len cap
    have hmk := fun w => makeS len hl w
    have HR : Hid (w2.rowIs w.heap.size 9 len (strV s)) := hR
    have HB : Hid (Below w.heap.size w w2) := hB
    clear h hnil hR hB
    go_enter Tryf.func8, Tryf.ntmps8
    go_wp2_with (at_builtin; refine wpList_cp rfl (.tmp 9) (.tmp 10) 22 rfl _ _ _ _ rfl rfl hcp ?_)
    go_ret
    exact ⟨_, rfl, Sl.row HR.out, (fun x e => by cases e; exact Nat.le_refl _), HB.out⟩

set_option maxHeartbeats 600000 in
theorem cloneInts_any (a : Option Addr) (len cap : Nat) (s : Nat → Int) (w : World) (hl : len ≤ 2000000) (hnil : a = none → len = 0 ∧ cap = 0) (h : Sl w a len (intV s)) :
    Calls Tryf.prog 9 #[.slice a len cap] w fun e w' => Cl a len (intV s) w e w' := by
  cases a with
  | none =>
    obtain ⟨rfl, rfl⟩ := hnil rfl
    have heq := eq_nil23
    clear h hnil
    go_enter Tryf.func9, Tryf.ntmps9
    go_wp2
    go_ret
    exact ⟨none, rfl, fun i hi => absurd hi (by omega), (fun x e => by cases e), Below.refl _ _⟩
  | some x =>
    obtain ⟨w2, hcp, hR, hB⟩ := copy_whole 23 3 Tryf.underlying23 (by kernel_rfl) (.int .i64 0) x len cap (intV s) (fun _ => rfl) w h
    have heq := eq_some23 x len cap
    have hmk := fun w => makeI len hl w
    have HR : Hid (w2.rowIs w.heap.size 3 len (intV s)) := hR
    have HB : Hid (Below w.heap.size w w2) := hB
    clear h hnil hR hB
    go_enter Tryf.func9, Tryf.ntmps9
    go_wp2_with (at_builtin; refine wpList_cp rfl (.tmp 9) (.tmp 10) 23 rfl _ _ _ _ rfl rfl hcp ?_)
    go_ret
    exact ⟨_, rfl, Sl.row HR.out, (fun x e => by cases e; exact Nat.le_refl _), HB.out⟩

end Go.Proofs.Qxb6605818aFmt
