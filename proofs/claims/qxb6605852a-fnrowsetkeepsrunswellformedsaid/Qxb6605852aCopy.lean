import Derived.Test.Qxb6605852aMem
import Derived.Test.Qxb6605852aProg
import Derived.Laws.CopyOwn
import Derived.Laws.MakeOwn
import Derived.KernelRfl
import Derived.OwnWalk
namespace Go.Proofs.Qxb6605852a
open Go.RowKit

theorem oneCell_encU (cs : List Nat) : ∀ v ∈ cs.map encU, v.oneCell' = true := by
  intro v hv
  obtain ⟨z, _, rfl⟩ := List.mem_map.1 hv
  rfl

theorem splice_map (zs : List Nat) (off : Nat) (cs : List Nat) : splice (zs.map encU) off (cs.map encU) = (splice zs off cs).map encU := by
  simp [splice]

theorem grownBy_setRow (w : World) (g : Nat) (cs : Array Value) : w.grownBy (w.setRow g cs) (some g) :=
  ⟨rfl, rfl, rfl, by simp, fun k _ hne => setRow_other w g k cs (fun e => hne (by rw [e]))⟩

theorem rowAt_setRow {w : World} {g : Nat} {zs : List Nat} (h : RowAt w g zs) (ys : List Nat) : RowAt (w.setRow g (ys.map encU).toArray) g ys :=
  setRow_heap w g _ _ 42 _ h

/-- 'copy', dst in a row of words that is known whole. -/
theorem wpList_copyW {P : Program} {w : World} {ops : Array Oper} {rest : List Oper} {o : Oper} {a : Act} {Q : Exit → Act → World → Prop} (hgd : o.guard = none) (d s : Operand) (dT sT : TypeId)
    (ho : o.op = .call { callee := .builtin .copy, args := #[d, s], argTypes := #[dT, sT] }) (elem : TypeId) (hu : P.underlying dT = some (.slice elem)) (hsz : (P.info? elem).map (·.size) = some 1)
    (dp sp : Option Addr) (dLen dCap sLen sCap : Nat) (hd : a.eval d = .slice dp dLen dCap) (hs : a.eval s = .slice sp sLen sCap)
    (g off : Nat) (zs : List Nat) (hg : RowAt w g zs) (cs : List Nat) (hn : cs.length = Nat.min sLen dLen)
    (hpos : 0 < cs.length → dp = some ⟨g, off, none⟩ ∧ ∃ b o, sp = some ⟨b, o, none⟩ ∧ ∀ j, j < cs.length → w.cell? ⟨b, o + j, none⟩ = some (.int .u64 (gw cs j : Nat)))
    (hfit : off + cs.length ≤ zs.length)
    (h : ∀ w', Hid (RowAt w' g (splice zs off cs)) → w.grownBy w' (some g) → wpList P ops Q rest (a.put o.dst (goInt cs.length)) w') :
    wpList P ops Q (o :: rest) a w := by
  by_cases h0 : cs.length = 0
  · obtain rfl : cs = [] := List.eq_nil_of_length_eq_zero h0
    refine wpList_copy_nothing hgd d s dT sT ho elem hu hsz dp sp dLen dCap sLen sCap hd hs (by simpa using hn.symm) ?_
    exact h w (show RowAt _ _ _ by simpa [splice] using hg) (World.grownBy.refl _ _)
  · obtain ⟨rfl, b, of, rfl, hsrc⟩ := hpos (by omega)
    refine wpList_copy_own hgd d s dT sT ho elem hu hsz g off dLen dCap ⟨b, of, none⟩ sLen sCap hd hs (zs.map encU).toArray 42 hg (cs.map encU) (by simpa using hn) (fun j v hv => ?_) (by simpa using hfit) (oneCell_encU cs) ?_
    · have hj : j < cs.length := by
        have := (List.getElem?_eq_some_iff.1 hv).1
        simpa using this
      have e := hsrc j hj
      rw [List.getElem?_map, List.getElem?_eq_getElem hj] at hv
      simp only [Option.map_some, Option.some.injEq] at hv
      rw [← hv]
      rw [gw_of_lt hj] at e
      rw [Addr.add_lit]
      exact e
    · have e : ((zs.map encU).toArray.toList.take off ++ (cs.map encU ++ (zs.map encU).toArray.toList.drop (off + (cs.map encU).length))).toArray = ((splice zs off cs).map encU).toArray := by
        rw [← splice_map]; rfl
      rw [e, List.length_map]
      exact h _ (rowAt_setRow hg _) (grownBy_setRow w g _)

/-- The same as one step of a region that draws its order. -/
theorem step_copyW {P : Program} {ops : Array Oper} {o : Oper} {a : Act} {w : World} {K : Act → World → Prop} {Q : Exit → Act → World → Prop} {E : Prop} (hgd : o.guard = none) (d s : Operand) (dT sT : TypeId)
    (ho : o.op = .call { callee := .builtin .copy, args := #[d, s], argTypes := #[dT, sT] }) (elem : TypeId) (hu : P.underlying dT = some (.slice elem)) (hsz : (P.info? elem).map (·.size) = some 1)
    (dp sp : Option Addr) (dLen dCap sLen sCap : Nat) (hd : a.eval d = .slice dp dLen dCap) (hs : a.eval s = .slice sp sLen sCap)
    (g off : Nat) (zs : List Nat) (hg : RowAt w g zs) (cs : List Nat) (hn : cs.length = Nat.min sLen dLen)
    (hpos : 0 < cs.length → dp = some ⟨g, off, none⟩ ∧ ∃ b o, sp = some ⟨b, o, none⟩ ∧ ∀ j, j < cs.length → w.cell? ⟨b, o + j, none⟩ = some (.int .u64 (gw cs j : Nat)))
    (hfit : off + cs.length ≤ zs.length)
    (h : ∀ w', Hid (RowAt w' g (splice zs off cs)) → w.grownBy w' (some g) → K (a.put o.dst (goInt cs.length)) w') :
    if Region.wanted o (yielded ops a.tmps) = true then Oper.wp P o a w K Q else E := by
  have hw : Region.wanted o (yielded ops a.tmps) = true := by simp [Region.wanted, hgd]
  rw [if_pos hw]
  by_cases h0 : cs.length = 0
  · obtain rfl : cs = [] := List.eq_nil_of_length_eq_zero h0
    have hrun := run_copy_none (P := P) w dT sT o.type elem dp sp dLen dCap sLen sCap hu hsz (by simpa using hn.symm)
    unfold Oper.wp
    simp [execOp, ho, resolve, invoke, builtin, hd, hs, hrun, Result.andThen]
    exact h w (show RowAt _ _ _ by simpa [splice] using hg) (World.grownBy.refl _ _)
  · obtain ⟨rfl, b, of, rfl, hsrc⟩ := hpos (by omega)
    have hrun := run_copy_row (P := P) w dT sT o.type elem g off dLen dCap ⟨b, of, none⟩ sLen sCap (zs.map encU).toArray 42 (cs.map encU) hu hsz hg (by simpa using hn) (fun j v hv => by
      have hj : j < cs.length := by
        have := (List.getElem?_eq_some_iff.1 hv).1
        simpa using this
      have e := hsrc j hj
      rw [List.getElem?_map, List.getElem?_eq_getElem hj] at hv
      simp only [Option.map_some, Option.some.injEq] at hv
      rw [← hv]
      rw [gw_of_lt hj] at e
      rw [Addr.add_lit]
      exact e) (by simpa using hfit) (oneCell_encU cs)
    have e : ((zs.map encU).toArray.toList.take off ++ cs.map encU ++ (zs.map encU).toArray.toList.drop (off + (cs.map encU).length)).toArray = ((splice zs off cs).map encU).toArray := by
      rw [← splice_map, List.append_assoc]; rfl
    rw [e, List.length_map] at hrun
    generalize hys : ((splice zs off cs).map encU).toArray = ys at hrun
    unfold Oper.wp
    simp [execOp, ho, resolve, invoke, builtin, hd, hs, hrun, Result.andThen]
    subst hys
    exact h _ (rowAt_setRow hg _) (grownBy_setRow w g _)

/-! ### make -/
def zrow (c : Nat) : Array Value := ((List.replicate c 0).map encU).toArray

theorem made_eq (c : Nat) : madeCells (Value.int .u64 0).cells (c * 1) = zrow c := by
  apply Array.ext
  · simp [size_madeCells, zrow]
  · intro i h1 h2
    simp [madeCells, zrow, Value.cells, encU, Nat.mod_one]

theorem info42 : (Try.prog.info? 42).map (fun i => (i.zero, i.size, i.bytes)) = some (some (.int .u64 0), 1, 8) := by kernel_rfl

theorem make_any (n c : Nat) (h : n ≤ c) (hc : c ≤ 1000000) (w : World) :
    (Instr.makeSlice 38 (.int .i64 (n : Int)) (.int .i64 (c : Int))).run Try.prog w = .ok (.slice (some ⟨w.heap.size, 0, none⟩) n c) (w.alloc (.cells (zrow c) 42)) := by
  obtain ⟨i, hi, hz, h1, h2⟩ := info_parts info42
  have := run_make (P := Try.prog) w 38 42 i (.int .u64 0) Try.underlying38 hi hz .i64 .i64 (n : Int) (c : Int) (by omega) (by omega) (by rw [h2]; omega) (by omega)
  rw [this, h1, Int.toNat_natCast, Int.toNat_natCast, made_eq]

theorem rowAt_new (w : World) (c : Nat) : RowAt (w.alloc (.cells (zrow c) 42)) w.heap.size (List.replicate c 0) := by
  unfold RowAt
  show (w.heap.push _)[w.heap.size]? = _
  simp [zrow]
end Go.Proofs.Qxb6605852a
