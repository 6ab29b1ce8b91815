import Derived.Test.Qxb6605818aFmtSort2
namespace Go.Proofs.Qxb6605818aFmt
open Go.RowKit Go.Maps
set_option linter.unusedVariables false

theorem Own.mono {base base' : Nat} {e : TypeId} {w : World} {v : Value} {xs : List Value} (h : Own base e w v xs) (hb : base' ≤ base) : Own base' e w v xs := by
  obtain ⟨h1, h2 | ⟨g, cap, cur, rfl, k1, k2⟩⟩ := h
  · exact ⟨h1, .inl h2⟩
  · exact ⟨h1, .inr ⟨g, cap, cur, rfl, by omega, k2⟩⟩

def pargs (B : Nat) (id : ByteArray) : Array Value := #[.string id, .pointer (some ⟨B + 3, 0, none⟩), .pointer (some ⟨B + 5, 0, none⟩), .pointer (some ⟨B, 0, none⟩), .pointer (some ⟨B + 6, 0, none⟩), .pointer (some ⟨B + 1, 0, none⟩)]

/-- How 'place' ends: nil, the node placed; or a cycle. -/
def PlaceOut (B bm : Nat) (ul path : List ByteArray) (u : Nat) (id : ByteArray) (w : World) (e : Ending) (w' : World) : Prop :=
  Below B w w' ∧ ((e = .returned (.slice none 0 0) ∧ ∃ pv qv seq st n, SortSt B bm w' pv qv path seq st n ∧ PInv ul path seq st n ∧ st id = 2 ∧ unseen ul st ≤ u) ∨
    (∃ (g l c : Nat) (cyc : List ByteArray), e = .returned (.slice (some ⟨g, 0, none⟩) l c) ∧ Own B 9 w' (.slice (some ⟨g, 0, none⟩) l c) (cyc.map Value.string) ∧ (∀ x ∈ cyc, x ∈ ul) ∧ cyc.length ≤ ul.length + 2 ∧ ∃ q, w'.rowIs (B + 1) 22 1 (fun _ => q)))

set_option maxHeartbeats 600000 in
theorem place_done (B bm : Nat) (ul : List ByteArray) (w : World) (pv qv : Value) (path seq : List ByteArray) (st : ByteArray → Nat) (n : Nat) (id : ByteArray) (h : SortSt B bm w pv qv path seq st n) (hI : PInv ul path seq st n) (hid : strKey id) (h2 : st id = 2) :
    Calls Tryf.prog 34 (pargs B id) w (PlaceOut B bm ul path (unseen ul st) id w) := by
  have c3 := h.stb.cell (i := 0) (by omega)
  have hlk := h.look id hid
  rw [h2] at hlk
  have HO : Hid (PlaceOut B bm ul path (unseen ul st) id w (.returned (.slice none 0 0)) w) := ⟨Below.refl _ _, .inl ⟨rfl, pv, qv, seq, st, n, h, hI, h2, Nat.le_refl _⟩⟩
  clear h hI
  unfold pargs
  go_enter Tryf.func34, Tryf.ntmps34
  go_wp2
  go_ret
  exact HO.out

theorem getD_map_string (l : List ByteArray) (i : Nat) (hi : i < l.length) : (l.map Value.string).getD i (.bool false) = .string l[i] := by
  simp [List.getD, hi]

set_option maxRecDepth 100000 in
set_option maxHeartbeats 1000000 in
theorem place_cycle (B bm : Nat) (ul : List ByteArray) (w : World) (pv qv : Value) (path seq : List ByteArray) (st : ByteArray → Nat) (n : Nat) (id : ByteArray) (h : SortSt B bm w pv qv path seq st n) (hI : PInv ul path seq st n) (hid : strKey id) (hul : id ∈ ul) (hu : ul.length ≤ 4096) (h1 : st id = 1) :
    Calls Tryf.prog 34 (pargs B id) w (PlaceOut B bm ul path (unseen ul st) id w) := by
  have c3 := h.stb.cell (i := 0) (by omega)
  have hlk := h.look id hid
  rw [h1] at hlk
  obtain ⟨t, ht, hpt⟩ := List.getElem_of_mem ((hI.mem id).1 h1)
  have hpl : path.length ≤ 4096 := by have := hI.room; omega
  obtain ⟨a, c, hpv, _, hax⟩ := h.pown.shape
  have hrd := (h.pown.reads hpv).2
  simp only [List.length_map] at hpv hrd
  have HRD : Hid (Sl w a path.length (fun i => (path.map Value.string).getD i (.bool false))) := hrd
  have c5 := h.ptb.cell (i := 0) (by omega)
  rw [hpv] at c5
  have c5x := c5
  obtain ⟨L, hL⟩ : ∃ L, path.length = L := ⟨_, rfl⟩
  rw [hL] at c5 c5x HRD
  have HL : Hid (path.length = L) := hL
  have HPU : Hid (∀ x ∈ path, x ∈ ul) := hI.pul
  have HPL : Hid (path.length ≤ ul.length) := by have := hI.room; show _ ≤ _; omega
  have hBl := h.clb.lt
  have HQ : Hid (w.rowIs (B + 1) 22 1 (fun _ => qv)) := h.sqb
  have hLi : (L : Int) ≤ 4096 := by omega
  have HPT : Hid (∃ t, ∃ h : t < path.length, path[t] = id) := ⟨t, ht, hpt⟩
  have hL1 : 1 ≤ L := by omega
  have hL1i : (1 : Int) ≤ (L : Int) := by omega
  clear h hI hpv hax hrd hpt hL ht
  have c5' : (w.alloc (.cells #[.string id] 9)).cell? ⟨B + 5, 0, none⟩ = some (.slice a L c) := (Foot.alloc (fun _ => False) w _).cell c5 (fun e => e)
  have HO0 : Hid (Own w.heap.size 9 (w.alloc (.cells #[.string id] 9)) (.slice (some ⟨w.heap.size, 0, none⟩) 1 1) ([id].map Value.string)) := by
    have := World.ownsRow_lit (e := 9) (size := 1) (base := w.heap.size) w #[.string id] 1 (Nat.le_refl _) (by unfold maxLen; omega) rfl
    exact this
  have hLs : IntKind.i64.wrap ((L : Int) - 1) = (L : Int) - 1 := by rw [IntKind.wrap_i64]; omega
  clear c5
  have c5 : Hid (w.cell? ⟨B + 5, 0, none⟩ = some (.slice a L c)) := c5x
  unfold pargs
  go_enter Tryf.func34, Tryf.ntmps34
  go_wp2
  go_loopw [8, 9] (fun v i wr => ∃ (j : Nat) (cyc : List ByteArray), j < L ∧ i = .int .i64 (j : Int) ∧ (∃ g cc, v = .slice (some ⟨g, 0, none⟩) cyc.length cc) ∧ Hid (Own w.heap.size 9 wr v (cyc.map Value.string)) ∧ Hid ((∀ x ∈ cyc, x ∈ ul) ∧ cyc.length + j ≤ L ∧ ∃ t, ∃ h : t < path.length, t ≤ j ∧ path[t] = id) ∧ Hid (Below w.heap.size w wr)) (fun _ i _ => (intOf i).toNat)
  case atStart =>
    obtain ⟨t, ht, hpt⟩ := HPT.out
    have hl := HL.out
    refine ⟨L - 1, [id], by omega, val_int (by omega), ⟨_, _, rfl⟩, HO0, ⟨fun x hx => ?_, by simp; omega, t, ht, by omega, hpt⟩, (Below.refl _ _).alloc (Nat.le_refl _) _⟩
    simp only [List.mem_singleton] at hx
    rw [hx]; exact hul
  case round =>
    obtain ⟨j, cyc, hj, rfl, ⟨g, cc, rfl⟩, HO, HI, HB⟩ := hrel
    have hl := HL.out
    obtain ⟨x, hx, hcx⟩ := HRD.out j hj
    subst hx
    have hjp : j < path.length := by omega
    have hcx : w.cell? (x.add j) = some ((path.map Value.string).getD j (.bool false)) := hcx
    rw [getD_map_string path j hjp] at hcx
    have hcx' : wr.cell? (x.add j) = some (.string path[j]) := (HB.out.cell (cell_lt hcx)).trans hcx
    have cb : wr.cell? ⟨B + 5, 0, none⟩ = some (.slice (some x) L c) := (HB.out.cell (cell_lt c5.out)).trans c5.out
    obtain ⟨s, hs⟩ : ∃ s, path[j] = s := ⟨_, rfl⟩
    rw [hs] at hcx'
    have HSU : Hid (s ∈ ul) := HPU.out s (hs ▸ List.getElem_mem hjp)
    have HSJ : Hid (path[j] = s) := hs
    have hsz := HB.out.size
    have hji : (j : Int) < (L : Int) := by omega
    obtain ⟨v', w2, e1, e2, e3, e4, e5⟩ := app1 (T := 22) _ _ Tryf.underlying22 info9 rfl (by omega) HO.out (.string s) rfl (by have := HI.out.2.1; simp; omega) hsz
    have e5 : ∃ g c, v' = .slice (some ⟨g, 0, none⟩) (cyc.length + 1) c := by simpa using e5
    obtain ⟨g', c', rfl⟩ := e5
    have HE2 : Hid (Own w.heap.size 9 w2 (.slice (some ⟨g', 0, none⟩) (cyc.length + 1) c') ((cyc ++ [s]).map Value.string)) := by rw [List.map_append]; exact e2
    have HE3 : Hid (Below w.heap.size w w2) := HB.out.trans ((e3.mono (S' := fun k => w.heap.size ≤ k) (fun i _ e => (HO.out.lt e).1)).below hsz (fun k e => e))
    clear hcx hs e2 e3 e4 hl
    by_cases he : s = id
    · subst he
      go_wp2_with (at_builtin; refine wpList_app rfl (.tmp 40) (.tmp 42) 22 rfl _ _ _ _ rfl rfl e1 ?_)
      go_ret
      refine ⟨HE3.out.mono (by omega), .inr ⟨g', cyc.length + 1, c', cyc ++ [s], rfl, ?_, fun y hy => ?_, ?_, qv, rowIs_below HQ.out HE3.out⟩⟩
      · exact Own.mono HE2.out (by omega)
      · rcases List.mem_append.1 hy with hy | hy
        · exact HI.out.1 y hy
        · simp only [List.mem_singleton] at hy; rw [hy]; exact HSU.out
      · have := HI.out.2.1
        have := HL.out
        have := HPL.out
        simp
        omega
    · have h1 := str_ne he
      obtain ⟨i1, i2, t, ht, htj, hpt⟩ := HI.out
      have hj1 : 1 ≤ j := by
        by_cases h0 : t = j
        · subst h0
          exact absurd (HSJ.out.symm.trans hpt) he
        · omega
      have hj1i : (1 : Int) ≤ (j : Int) := by omega
      have htj2 : t ≠ j := fun e => by subst e; exact he (HSJ.out.symm.trans hpt)
      have HPT2 : Hid (∃ t, ∃ h : t < path.length, t ≤ j - 1 ∧ path[t] = id) := ⟨t, ht, by omega, hpt⟩
      have HI1 : Hid (∀ x ∈ cyc, x ∈ ul) := i1
      clear hpt i1 htj2 ht htj
      go_wp2_with (at_builtin; refine wpList_app rfl (.tmp 33) (.tmp 38) 22 rfl _ _ _ _ rfl rfl e1 ?_)
      refine ⟨⟨j - 1, cyc ++ [s], by omega, val_int (by omega), ⟨g', c', by simp⟩, HE2, ⟨fun y hy => ?_, by simp; omega, HPT2.out⟩, HE3⟩, ?_⟩
      · rcases List.mem_append.1 hy with hy | hy
        · exact HI1.out y hy
        · simp only [List.mem_singleton] at hy; rw [hy]; exact HSU.out
      · simp [intOf]; omega
end Go.Proofs.Qxb6605818aFmt
