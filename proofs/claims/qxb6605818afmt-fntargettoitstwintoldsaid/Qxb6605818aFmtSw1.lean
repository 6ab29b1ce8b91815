import Derived.Test.Qxb6605818aFmtSw0
namespace Go.Proofs.Qxb6605818aFmt
open Go.RowKit Go.Maps
set_option linter.unusedVariables false

/-- The members among the first k subtransactions. -/
def idl (M : Nat → ByteArray) (lm : Nat) (s : Nat → ByteArray) : Nat → List ByteArray
  | 0 => []
  | k + 1 => idl M lm s k ++ (if inStr M (s k) lm = true then [s k] else [])
def ixf (M : Nat → ByteArray) (lm : Nat) (s : Nat → ByteArray) : Nat → ByteArray → Nat
  | 0 => fun _ => 0
  | k + 1 => if inStr M (s k) lm = true then upd (ixf M lm s k) (s k) (idl M lm s k).length else ixf M lm s k
def hsf (M : Nat → ByteArray) (lm : Nat) (s : Nat → ByteArray) : Nat → ByteArray → Bool
  | 0 => fun _ => false
  | k + 1 => if inStr M (s k) lm = true then upd (hsf M lm s k) (s k) true else hsf M lm s k

section
variable {M : Nat → ByteArray} {lm : Nat} {s : Nat → ByteArray}
theorem idl_length (k : Nat) : (idl M lm s k).length ≤ k := by
  induction k with
  | zero => simp [idl]
  | succ k ih =>
    simp only [idl, List.length_append]
    split <;> simp <;> omega
theorem idl_mem (k : Nat) : ∀ x ∈ idl M lm s k, inStr M x lm = true := by
  induction k with
  | zero => simp [idl]
  | succ k ih =>
    intro x hx
    simp only [idl] at hx
    rcases List.mem_append.1 hx with hx | hx
    · exact ih x hx
    · split at hx
      · rename_i h
        simp only [List.mem_singleton] at hx
        rw [hx]; exact h
      · simp at hx
theorem hsf_of (k : Nat) {j : Nat} (hj : j < k) (h : inStr M (s j) lm = true) : hsf M lm s k (s j) = true := by
  induction k with
  | zero => omega
  | succ k ih =>
    simp only [hsf]
    by_cases e : j = k
    · subst e
      rw [if_pos h, upd_same]
    · split
      · by_cases e2 : s j = s k
        · rw [e2, upd_same]
        · rw [upd_other _ _ e2]; exact ih (by omega)
      · exact ih (by omega)
theorem ixf_lt (k : Nat) (x : ByteArray) (h : hsf M lm s k x = true) : ixf M lm s k x < (idl M lm s k).length := by
  induction k with
  | zero => simp [hsf] at h
  | succ k ih =>
    simp only [hsf, ixf, idl, List.length_append] at h ⊢
    split at h
    · rename_i hk
      rw [if_pos hk, if_pos hk]
      by_cases e : x = s k
      · subst e; rw [upd_same]; simp
      · rw [upd_other _ _ e] at h ⊢
        have := ih h
        simp; omega
    · rename_i hk
      rw [if_neg hk, if_neg hk]
      have := ih h
      simpa using this
end

/-- A cell of a block holds a slice that the call owns: 'x = append(x, v)'. -/
theorem own_cell_push {base : Nat} {e : TypeId} {w : World} {v : Value} {xs : List Value} {sb i : Nat} {cs : Array Value} {t : TypeId} (T : TypeId) (z : Value) (bytes : Nat) (hT : Tryf.prog.underlying T = some (.slice e)) (hinfo : (Tryf.prog.info? e).map (fun i => (i.zero, i.size, i.bytes)) = some (some z, 1, bytes)) (hz1 : z.cells = #[z]) (hby : bytes ≤ 64)
    (hblk : w.heap[sb]? = some (.cells cs t (0, 0))) (hi : cs[i]? = some v) (ho : Own base e w v xs) (hne : e ≠ t) (x : Value) (hx : x.oneCell' = true) (hl : xs.length ≤ 1000000000) (hbase : base ≤ w.heap.size) :
    ∃ v' w2, (∀ ty, (Builtin.append_ #[T, T] ty #[v, .slice (some ⟨w.heap.size, 0, none⟩) 1 1]).run Tryf.prog (w.alloc (.cells #[x] e)) = .ok v' w2) ∧ (w2.setCell ⟨sb, i, none⟩ v').heap[sb]? = some (.cells (cs.setIfInBounds i v') t (0, 0)) ∧ Own base e (w2.setCell ⟨sb, i, none⟩ v') v' (xs ++ [x]) ∧ Foot (fun k => k = sb ∨ v.ownBlock = some k) w (w2.setCell ⟨sb, i, none⟩ v') ∧ w2.cell? ⟨sb, i, none⟩ = some v ∧ w2.frozen? ⟨sb, i, none⟩ = false ∧ Foot (fun k => v.ownBlock = some k) w w2 ∧ (∃ g c, v' = .slice (some ⟨g, 0, none⟩) (xs.length + 1) c) := by
  obtain ⟨v', w2, e1, e2, e3, e4, e5⟩ := app1 (T := T) z bytes hT hinfo hz1 hby ho x hx hl hbase
  have hnb : ∀ b, v.ownBlock = some b → b ≠ sb := fun b hb h => by
    obtain ⟨cur, hc⟩ := ho.heap hb
    exact cells_ne hc hblk hne h
  have hb2 : w2.heap[sb]? = some (.cells cs t (0, 0)) := (e3.block sb (block_lt hblk) (fun h => hnb sb h rfl)).trans hblk
  have hFs := Foot.setCell w2 ⟨sb, i, none⟩ v'
  have hil : i < cs.size := (Array.getElem?_eq_some_iff.1 hi).1
  refine ⟨v', w2, e1, ?_, e2.kept hFs (fun b hb h => ?_), (e3.mono (fun k _ h => .inr h)).trans hFs (fun k _ h => .inl h), ?_, ?_, e3, e5⟩
  · simp [World.setCell, Array.getElem?_modify, hb2]
  · obtain ⟨cur, hc⟩ := e2.heap hb
    exact cells_ne hc hb2 hne h
  · simp [World.cell?, hb2, hi]
  · simp [World.frozen?, hb2]

/-- The switching while its members are told. -/
structure StA (base : Nat) (w : World) (sb ib : Nat) (c0 c1 c2 c3 c10 : Value) (iv : Value) (L : List ByteArray) (nn : Nat) (ix : ByteArray → Nat) (hs : ByteArray → Bool) : Prop where
  lo : base ≤ sb
  li : base ≤ ib
  blk : w.heap[sb]? = some (.cells #[c0, c1, c2, c3, iv, .map (some ib), .slice none 0 0, .slice none 0 0, .slice none 0 0, .slice none 0 0, c10] 77 (0, 0))
  own : Own base 9 w iv (L.map Value.string)
  mp : MapK Value.string strKey 9 (.int .i64 0) w ib nn (fun x => .int .i64 (ix x : Nat)) hs

section
variable {base : Nat} {w w' : World} {sb ib : Nat} {c0 c1 c2 c3 c10 : Value} {iv : Value} {L : List ByteArray} {nn : Nat} {ix : ByteArray → Nat} {hs : ByteArray → Bool}
theorem StA.new (h : StA base w sb ib c0 c1 c2 c3 c10 iv L nn ix hs) (hB : Below w.heap.size w w') : StA base w' sb ib c0 c1 c2 c3 c10 iv L nn ix hs :=
  ⟨h.lo, h.li, (hB.block _ (block_lt h.blk)).trans h.blk, h.own.below hB, h.mp.kept (S := fun _ => False) (Foot.of_below hB) id⟩
theorem StA.ne (h : StA base w sb ib c0 c1 c2 c3 c10 iv L nn ix hs) : sb ≠ ib := by
  rintro rfl
  obtain ⟨es, c, h2⟩ := h.mp.is_map
  rw [h.blk] at h2
  simp at h2
theorem StA.put (h : StA base w sb ib c0 c1 c2 c3 c10 iv L nn ix hs) (x : ByteArray) (hx : strKey x) (hn : nn ≤ 1000000) (v : Nat) :
    ∃ w', (Instr.mapUpdate 73 (.map (some ib)) (.string x) (.int .i64 (v : Nat))).run Tryf.prog w = .ok () w' ∧ StA base w' sb ib c0 c1 c2 c3 c10 iv L (nn + 1) (upd ix x v) (upd hs x true) ∧ Foot (fun k => k = ib) w w' := by
  obtain ⟨w', e1, e2, e3⟩ := h.mp.put law9 str_inj u73 (by unfold maxLen; omega) x hx (.int .i64 (v : Nat))
  refine ⟨w', e1, ⟨h.lo, h.li, (e3.block _ (block_lt h.blk) h.ne).trans h.blk, h.own.kept e3 (fun b hb => h.own.ne_map hb h.mp), ?_⟩, e3⟩
  have : upd (fun x => Value.int .i64 (ix x : Nat)) x (.int .i64 (v : Nat)) = fun y => .int .i64 (upd ix x v y : Nat) := by
    funext y
    by_cases e : y = x
    · subst e; rw [upd_same, upd_same]
    · rw [upd_other _ _ e, upd_other _ _ e]
  rw [← this]
  exact e2
theorem StA.push (h : StA base w sb ib c0 c1 c2 c3 c10 iv L nn ix hs) (x : ByteArray) (hl : L.length ≤ 1000000) (hb : base ≤ w.heap.size) :
    ∃ iv' w2, (∀ ty, (Builtin.append_ #[22, 22] ty #[iv, .slice (some ⟨w.heap.size, 0, none⟩) 1 1]).run Tryf.prog (w.alloc (.cells #[.string x] 9)) = .ok iv' w2) ∧ StA base (w2.setCell ⟨sb, 4, none⟩ iv') sb ib c0 c1 c2 c3 c10 iv' (L ++ [x]) nn ix hs ∧ Below base w (w2.setCell ⟨sb, 4, none⟩ iv') ∧ w2.cell? ⟨sb, 4, none⟩ = some iv ∧ w2.frozen? ⟨sb, 4, none⟩ = false ∧ Foot (fun k => iv.ownBlock = some k) w w2 ∧ (∃ g c, iv' = .slice (some ⟨g, 0, none⟩) (L.length + 1) c) := by
  obtain ⟨v', w2, e1, e2, e3, e4, e5, e6, e7, e8⟩ := own_cell_push (sb := sb) (i := 4) 22 _ _ Tryf.underlying22 info9 rfl (by omega) h.blk (by rfl) h.own (by decide) (.string x) rfl (by simp; omega) hb
  refine ⟨v', w2, e1, ⟨h.lo, h.li, by simpa using e2, by rw [List.map_append]; exact e3, h.mp.kept e4 ?_⟩, e4.below hb (fun k hk => ?_), e5, e6, e7, by simpa using e8⟩
  · rintro (e | e)
    · exact h.ne e.symm
    · exact h.own.ne_map e h.mp rfl
  · rcases hk with rfl | hk
    · exact h.lo
    · exact (h.own.lt hk).1
end

/-- Two rows of rows, apart. -/
structure BA (base : Nat) (w : World) (G1 G2 N : Nat) (vs1 : Nat → Value) (X1 : Nat → List Nat) (vs2 : Nat → Value) (X2 : Nat → List Nat) : Prop where
  n1 : RR base w G1 N vs1 X1
  n2 : RR base w G2 N vs2 X2
  ne : G1 ≠ G2
  dis : ∀ i j, i < N → j < N → ∀ b, (vs1 i).ownBlock = some b → (vs2 j).ownBlock ≠ some b

section
variable {base : Nat} {w w' : World} {G1 G2 N : Nat} {vs1 : Nat → Value} {X1 : Nat → List Nat} {vs2 : Nat → Value} {X2 : Nat → List Nat}
theorem BA.new (h : BA base w G1 G2 N vs1 X1 vs2 X2) (hB : Below w.heap.size w w') : BA base w' G1 G2 N vs1 X1 vs2 X2 := ⟨h.n1.new hB, h.n2.new hB, h.ne, h.dis⟩
theorem BA.symm (h : BA base w G1 G2 N vs1 X1 vs2 X2) : BA base w G2 G1 N vs2 X2 vs1 X1 := ⟨h.n2, h.n1, h.ne.symm, fun i j hi hj b h1 h2 => h.dis j i hj hi b h2 h1⟩
theorem BA.push (h : BA base w G1 G2 N vs1 X1 vs2 X2) {i : Nat} (hi : i < N) (k : Nat) (hl : (X1 i).length ≤ 1000000) :
    ∃ v' w2, (∀ ty, (Builtin.append_ #[23, 23] ty #[vs1 i, .slice (some ⟨w.heap.size, 0, none⟩) 1 1]).run Tryf.prog (w.alloc (.cells #[.int .i64 (k : Nat)] 3)) = .ok v' w2) ∧ BA base (w2.setCell ⟨G1, i, none⟩ v') G1 G2 N (upd vs1 i v') (upd X1 i (X1 i ++ [k])) vs2 X2 ∧ Below base w (w2.setCell ⟨G1, i, none⟩ v') ∧ Foot (fun k => (vs1 i).ownBlock = some k) w w2 ∧ w2.cell? ⟨G1, i, none⟩ = some (vs1 i) ∧ w2.frozen? ⟨G1, i, none⟩ = false ∧ (∃ g c, v' = .slice (some ⟨g, 0, none⟩) ((X1 i).length + 1) c) ∧ Below base w w2 := by
  have hbw : base ≤ w.heap.size := by have := h.n1.out.lt; have := h.n1.lo; omega
  obtain ⟨v', w2, e1, r1, r2, e3, r3, r4, hnew, e5⟩ := h.n1.push hi k hl hbw
  have hnG : ∀ {v : Value} {xs : List Value} {b : Nat}, Own base 3 w v xs → v.ownBlock = some b → b ≠ G1 ∧ b ≠ G2 := fun ho hb => ⟨ho.ne hb h.n1.out (by decide), ho.ne hb h.n2.out (by decide)⟩
  refine ⟨v', w2, e1, ⟨r1, ?_, h.ne, fun a j ha hj b hb1 hb2 => ?_⟩, r2.below hbw (fun k e => ?_), e3, r3, r4, e5, e3.below hbw (fun k e => ((h.n1.own i hi).lt e).1)⟩
  · refine h.n2.kept r2 ?_ (fun j hj b hb e => ?_)
    · rintro (e | e)
      · exact h.ne e.symm
      · exact (hnG (h.n1.own i hi) e).2 rfl
    · rcases e with e | e
      · exact (hnG (h.n2.own j hj) hb).1 e
      · exact h.dis i j hi hj b e hb
  · by_cases e : a = i
    · subst e
      rw [upd_same] at hb1
      rcases hnew with e | ⟨g, e, hg⟩
      · rw [e] at hb1
        exact h.dis a j ha hj b hb1 hb2
      · rw [e] at hb1
        cases hb1
        have := ((h.n2.own j hj).lt hb2).2
        omega
    · rw [upd_other _ _ e] at hb1
      exact h.dis a j ha hj b hb1 hb2
  · rcases e with rfl | e
    · exact h.n1.lo
    · exact ((h.n1.own i hi).lt e).1
end
end Go.Proofs.Qxb6605818aFmt
