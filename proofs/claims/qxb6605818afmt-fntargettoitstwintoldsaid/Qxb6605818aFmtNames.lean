import Derived.Test.Qxb6605818aFmtPremise
namespace Go.Proofs.Qxb6605818aFmt
open Go.RowKit Go.Maps
set_option linter.unusedVariables false

def pick (s : Nat → ByteArray) (z : Nat → Int) : Nat → ByteArray := fun k => s (z k).toNat

set_option maxHeartbeats 600000 in
theorem names_any (a b : Option Addr) (n c len c1 : Nat) (s : Nat → ByteArray) (z : Nat → Int) (w : World) (hn : n ≤ 2000000) (hl : len ≤ 2000000) (h : Sl w a n (strV s)) (h1 : Sl w b len (intV z)) (hin : allIn n z len) :
    Calls Tryf.prog 21 #[.slice a n c, .slice b len c1] w fun e w' => e = .returned (.slice (some ⟨w.heap.size, 0, none⟩) len len) ∧ w'.rowIs w.heap.size 9 len (strV (pick s z)) ∧ Below w.heap.size w w' := by
  have H : Hid (Sl w a n (strV s)) := h
  have H1 : Hid (Sl w b len (intV z)) := h1
  have HI : Hid (allIn n z len) := hin
  have hli : (len : Int) ≤ 2000000 := by omega
  have hni : (n : Int) ≤ 2000000 := by omega
  have hmk := fun w => makeS len hl w
  clear h h1 hin
  go_enter Tryf.func21, Tryf.ntmps21
  go_wp2
  go_loopw [6] (fun i wr => ∃ k : Nat, k ≤ len ∧ i = .int .i64 k ∧ Hid (wr.rowIs w.heap.size 9 len (fun j => if j < k then .string (pick s z j) else .string ⟨#[]⟩)) ∧ Hid (Below w.heap.size w wr)) (fun i _ => len - (intOf i).toNat)
  case atStart =>
    exact ⟨0, Nat.zero_le _, rfl, (World.rowIs_made w (.string ⟨#[]⟩) len 9).congr (fun i hi => by simp), (Below.refl _ _).alloc (Nat.le_refl _) _⟩
  case round =>
    obtain ⟨k, hk, rfl, HR, HB⟩ := hrel
    by_cases hlt : k < len
    · obtain ⟨y, hy, hc⟩ := H1.out k hlt
      subst hy
      have hc' : wr.cell? (y.add k) = some (.int .i64 (z k)) := (HB.out.cell (cell_lt hc)).trans hc
      obtain ⟨g1, g2⟩ := HI.out k hlt
      obtain ⟨m, hm⟩ : ∃ m : Nat, z k = m := ⟨(z k).toNat, by omega⟩
      rw [hm] at hc' g1 g2
      have hmn : m < n := by omega
      obtain ⟨x, hx, hcs⟩ := H.out m hmn
      subst hx
      have hcs' : wr.cell? (x.add m) = some (.string (s m)) := (HB.out.cell (cell_lt hcs)).trans hcs
      have HP : Hid (pick s z k = s m) := by show s (z k).toNat = s m; rw [hm]; rfl
      have hlti : (k : Int) < (len : Int) := by omega
      have hcm := HR.out.cell hlt
      rw [if_neg (Nat.lt_irrefl k)] at hcm
      have hfz := HR.out.frozen k
      clear hc hcs hm
      go_wp2
      refine ⟨⟨k + 1, by omega, by go_num, ?_, HB.out.setCell (Nat.le_refl _) _⟩, ?_⟩
      · refine (HR.out.set k (.string (s m))).congr (fun j hj => ?_)
        by_cases e : j = k
        · subst e; rw [if_pos rfl, if_pos (by omega), HP.out]
        · rw [if_neg e]
          by_cases e2 : j < k
          · rw [if_pos e2, if_pos (by omega)]
          · rw [if_neg e2, if_neg (by omega)]
      · simp [intOf]; omega
    · obtain rfl : k = len := by omega
      go_wp2
      go_ret
      exact ⟨rfl, HR.out.congr (fun j hj => by rw [if_pos hj]; rfl), HB.out⟩

theorem info72 : (Tryf.prog.info? 72).map (fun i => (i.zero, i.size, i.bytes)) = some (some (.agg #[.string ⟨#[]⟩, .string ⟨#[]⟩]), 2, 32) := by kernel_rfl

theorem info_parts {t : TypeId} {z : Value} {s b : Nat} (h : (Tryf.prog.info? t).map (fun i => (i.zero, i.size, i.bytes)) = some (some z, s, b)) : ∃ i, Tryf.prog.info? t = some i ∧ i.zero = some z ∧ i.size = s ∧ i.bytes = b := by
  obtain ⟨i, hi, hzz⟩ := Option.map_eq_some_iff.1 h
  simp only [Prod.mk.injEq] at hzz
  exact ⟨i, hi, hzz⟩

theorem makeP (n : Nat) (h : n ≤ 2000000) (w : World) : (Instr.makeSlice 41 (.int .i64 (n : Int)) (.int .i64 (n : Int))).run Tryf.prog w = .ok (.slice (some ⟨w.heap.size, 0, none⟩) n n) (w.alloc (.cells (madeCells #[.string ⟨#[]⟩, .string ⟨#[]⟩] (n * 2)) 72)) := by
  obtain ⟨i, hi, hz, h1, h2⟩ := info_parts info72
  have := run_make (P := Tryf.prog) w 41 72 i _ Tryf.underlying41 hi hz .i64 .i64 (n : Int) (n : Int) (by omega) (by omega) (by rw [h2]; omega) (by omega)
  rw [this, h1, Int.toNat_natCast]
  rfl

theorem rowIs_made2 (w : World) (v : Value) (n : Nat) (t : TypeId) : (w.alloc (.cells (madeCells #[v, v] (n * 2)) t)).rowIs w.heap.size t (n * 2) (fun _ => v) := by
  refine ⟨_, Deep.blk_alloc_new _ _, size_madeCells _ _, fun i hi => ?_⟩
  have : i % 2 = 0 ∨ i % 2 = 1 := by omega
  rcases this with e | e
  · simp [madeCells, hi, e]
  · simp [madeCells, hi, e]

/-- Cell j of a row of pairs. -/
def pairV (f g : Nat → ByteArray) : Nat → Value := fun j => .string (if j % 2 = 0 then f (j / 2) else g (j / 2))

theorem rowIs_block {w : World} {b n : Nat} {t : TypeId} {f : Nat → Value} (h : w.rowIs b t n f) : w.heap[b]? = some (.cells ((List.range n).map f).toArray t (0, 0)) := by
  obtain ⟨c, h1, h2, h3⟩ := h
  rw [h1]
  congr 2
  apply Array.ext
  · simp [h2]
  · intro i hi hj
    have := h3 i (by omega)
    rw [Array.getElem?_eq_getElem hi] at this
    simp at this
    simp [this]

/-- An order in memory: its name, its members, its precedences. -/
def OrderAt (w : World) (v : Value) (nm : ByteArray) (lm la : Nat) (M f g : Nat → ByteArray) : Prop :=
  ∃ m p, v = .agg #[.string nm, .slice (some ⟨m, 0, none⟩) lm lm, .slice (some ⟨p, 0, none⟩) la la] ∧ w.rowIs m 9 lm (strV M) ∧ w.rowIs p 72 (la * 2) (pairV f g)

theorem rowIs_below {w w' : World} {b n : Nat} {t : TypeId} {f : Nat → Value} (h : w.rowIs b t n f) (hb : Below w.heap.size w w') : w'.rowIs b t n f := h.of_block (hb.block b h.lt)

theorem OrderAt.below {w w' : World} {v : Value} {nm : ByteArray} {lm la : Nat} {M f g : Nat → ByteArray} (h : OrderAt w v nm lm la M f g) (hb : Below w.heap.size w w') : OrderAt w' v nm lm la M f g := by
  obtain ⟨m, p, h1, h2, h3⟩ := h
  exact ⟨m, p, h1, rowIs_below h2 hb, rowIs_below h3 hb⟩

set_option maxRecDepth 100000 in
set_option maxHeartbeats 1000000 in
theorem orderOf_any (nm : ByteArray) (a b a2 a3 : Option Addr) (n c lm c1 la c2 c3 : Nat) (s : Nat → ByteArray) (zm za zb : Nat → Int) (w : World) (hn : n ≤ 2000000) (hl : lm ≤ 2000000) (hla : la ≤ 2000000) (h : Sl w a n (strV s)) (h1 : Sl w b lm (intV zm)) (h2 : Sl w a2 la (intV za)) (h3 : Sl w a3 la (intV zb)) (hin : allIn n zm lm) (hia : allIn n za la) (hib : allIn n zb la) :
    Calls Tryf.prog 22 #[.string nm, .slice a n c, .slice b lm c1, .slice a2 la c2, .slice a3 la c3] w fun e w' => ∃ v, e = .returned v ∧ OrderAt w' v nm lm la (pick s zm) (pick s za) (pick s zb) ∧ Below w.heap.size w w' := by
  have H : Hid (Sl w a n (strV s)) := h
  have H2 : Hid (Sl w a2 la (intV za)) := h2
  have H3 : Hid (Sl w a3 la (intV zb)) := h3
  have HIA : Hid (allIn n za la) := hia
  have HIB : Hid (allIn n zb la) := hib
  have hli : (la : Int) ≤ 2000000 := by omega
  have hni : (n : Int) ≤ 2000000 := by omega
  have hmk := fun w => makeP la hla w
  have HNM : Hid (∀ w', Below w.heap.size w w' → Calls Tryf.prog 21 #[.slice a n c, .slice b lm c1] w' fun e w'' => e = .returned (.slice (some ⟨w'.heap.size, 0, none⟩) lm lm) ∧ w''.rowIs w'.heap.size 9 lm (strV (pick s zm)) ∧ Below w'.heap.size w' w'') := fun w' hb => names_any a b n c lm c1 s zm w' hn hl (h.below hb) (h1.below hb) hin
  clear h h1 h2 h3 hin hia hib
  go_enter Tryf.func22, Tryf.ntmps22
  go_wp2
  go_loopw [12] (fun i wr => ∃ k : Nat, k ≤ la ∧ i = .int .i64 k ∧ Hid (wr.rowIs w.heap.size 43 3 (fun j => if j = 0 then .string ⟨#[]⟩ else .slice none 0 0)) ∧ Hid (wr.rowIs (w.heap.size + 1) 72 (la * 2) (fun j => if j / 2 < k then pairV (pick s za) (pick s zb) j else .string ⟨#[]⟩)) ∧ Hid (Below w.heap.size w wr)) (fun i _ => la - (intOf i).toNat)
  case atStart =>
    refine ⟨0, Nat.zero_le _, rfl, ?_, ?_, ?_⟩
    · refine World.rowIs.alloc ?_ _
      exact ⟨_, Deep.blk_alloc_new _ _, rfl, fun i hi => by
        have : i = 0 ∨ i = 1 ∨ i = 2 := by omega
        rcases this with rfl | rfl | rfl <;> rfl⟩
    · have := rowIs_made2 (w.alloc (.cells #[.string ⟨#[]⟩, .slice none 0 0, .slice none 0 0] 43)) (.string ⟨#[]⟩) la 72
      have e : (w.alloc (.cells #[.string ⟨#[]⟩, .slice none 0 0, .slice none 0 0] 43)).heap.size = w.heap.size + 1 := by simp
      rw [e] at this
      exact this.congr (fun i hi => by simp)
    · exact ((Below.refl _ _).alloc (Nat.le_refl _) _).alloc (by simp) _
  case round =>
    obtain ⟨k, hk, rfl, HRB, HR, HB⟩ := hrel
    by_cases hlt : k < la
    · obtain ⟨y, hy, hc⟩ := H2.out k hlt
      obtain ⟨y', hy', hcb⟩ := H3.out k hlt
      subst hy
      subst hy'
      have hc' : wr.cell? (y.add k) = some (.int .i64 (za k)) := (HB.out.cell (cell_lt hc)).trans hc
      have hcb' : wr.cell? (y'.add k) = some (.int .i64 (zb k)) := (HB.out.cell (cell_lt hcb)).trans hcb
      obtain ⟨g1, g2⟩ := HIA.out k hlt
      obtain ⟨g3, g4⟩ := HIB.out k hlt
      obtain ⟨m, hm⟩ : ∃ m : Nat, za k = m := ⟨(za k).toNat, by omega⟩
      obtain ⟨m', hm'⟩ : ∃ m : Nat, zb k = m := ⟨(zb k).toNat, by omega⟩
      rw [hm] at hc' g1 g2
      rw [hm'] at hcb' g3 g4
      obtain ⟨x, hx, hcs⟩ := H.out m (by omega)
      obtain ⟨x', hx', hcs'⟩ := H.out m' (by omega)
      subst hx
      cases hx'
      have hd : wr.cell? (x.add m) = some (.string (s m)) := (HB.out.cell (cell_lt hcs)).trans hcs
      have hd' : wr.cell? (x.add m') = some (.string (s m')) := (HB.out.cell (cell_lt hcs')).trans hcs'
      have HP : Hid (pick s za k = s m ∧ pick s zb k = s m') := by
        constructor
        · show s (za k).toNat = s m; rw [hm]; rfl
        · show s (zb k).toNat = s m'; rw [hm']; rfl
      have hlti : (k : Int) < (la : Int) := by omega
      have hcm := HR.out.cell (i := k * 2) (by omega)
      have hcm' := HR.out.cell (i := k * 2 + 1) (by omega)
      rw [if_neg (by omega)] at hcm
      rw [if_neg (by omega)] at hcm'
      have hfz := HR.out.frozen (k * 2)
      have hfz' := HR.out.frozen (k * 2 + 1)
      clear hc hcb hm hm' hcs hcs'
      go_wp2
      go_region
      go_wp2
      refine ⟨⟨k + 1, by omega, by go_num, ?_, ?_, ?_⟩, ?_⟩
      · exact (((HRB.out.setOther (by simp) _).setOther (by simp) _).drew)
      · refine World.rowIs.drew (((HR.out.set (k * 2) (.string (s m))).set (k * 2 + 1) (.string (s m'))).congr (fun j hj => ?_))
        obtain ⟨p1, p2⟩ := HP.out
        by_cases e : j = k * 2 + 1
        · subst e
          rw [if_pos rfl, if_pos (by omega)]
          show _ = Value.string (if (k * 2 + 1) % 2 = 0 then _ else _)
          rw [if_neg (by omega), show (k * 2 + 1) / 2 = k by omega, p2]
        · rw [if_neg e]
          by_cases e2 : j = k * 2
          · subst e2
            rw [if_pos rfl, if_pos (by omega)]
            show _ = Value.string (if (k * 2) % 2 = 0 then _ else _)
            rw [if_pos (by omega), show (k * 2) / 2 = k by omega, p1]
          · rw [if_neg e2]
            by_cases e3 : j / 2 < k
            · rw [if_pos e3, if_pos (by omega)]
            · rw [if_neg e3, if_neg (by omega)]
      · exact ((HB.out.setCell (by simp) _).setCell (by simp) _).drew
      · simp [intOf]; omega
    · obtain rfl : la = k := by omega
      go_wp2_with fail
      refine Calls.mono (HNM.out wr HB.out) ?_
      rintro e w4 ⟨rfl, hrow, hB4⟩
      obtain ⟨mm, hmm⟩ : ∃ mm, wr.heap.size = mm := ⟨_, rfl⟩
      have hlB := HRB.out.lt
      have hlP := HR.out.lt
      have hRB4 := HRB.out.of_block (hB4.block _ hlB)
      have hR4 := HR.out.of_block (hB4.block _ hlP)
      have HB4 : Hid (Below w.heap.size w w4) := HB.out.trans (hB4.mono HB.out.size)
      rw [hmm] at hrow hlB hlP ⊢
      have HRW : Hid (w4.rowIs mm 9 lm (strV (pick s zm))) := hrow
      have HP4 : Hid (w4.rowIs (w.heap.size + 1) 72 (la * 2) (fun j => if j / 2 < la then pairV (pick s za) (pick s zb) j else .string ⟨#[]⟩)) := hR4
      have HRB4 : Hid (w4.rowIs w.heap.size 43 3 (fun j => if j = 0 then .string ⟨#[]⟩ else .slice none 0 0)) := hRB4
      have c0 := hRB4.cell (i := 0) (by omega)
      have c1 := hRB4.cell (i := 1) (by omega)
      have c2 := hRB4.cell (i := 2) (by omega)
      have f0 := hRB4.frozen 0
      have f1 := hRB4.frozen 1
      have f2 := hRB4.frozen 2
      clear hrow hB4 hR4 hRB4 hmm
      go_wp2
      have hset := ((HRB4.out.set 0 (.string nm)).set 1 (.slice (some ⟨mm, 0, none⟩) lm lm)).set 2 (.slice (some ⟨w.heap.size + 1, 0, none⟩) la la)
      refine bodyPost_ret (results_cell_row rfl _ _ w.heap.size 43 _ (0, 0) _ rfl (rowIs_block hset) Tryf.underlying43 rfl (by kernel_rfl)) rfl ?_
      refine ⟨_, rfl, ⟨mm, w.heap.size + 1, rfl, ?_, ?_⟩, ?_⟩
      · exact ((HRW.out.setOther (by simp; omega) _).setOther (by simp; omega) _).setOther (by simp; omega) _
      · exact (((HP4.out.setOther (by simp) _).setOther (by simp) _).setOther (by simp) _).congr (fun j hj => by rw [if_pos (by omega)])
      · exact ((HB4.out.setCell (Nat.le_refl _) _).setCell (Nat.le_refl _) _).setCell (Nat.le_refl _) _
end Go.Proofs.Qxb6605818aFmt
