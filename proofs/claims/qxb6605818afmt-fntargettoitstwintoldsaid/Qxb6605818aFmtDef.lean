import Derived.Test.Qxb6605818aFmtNames
import Derived.Deep.RegionHeld3
namespace Go.Proofs.Qxb6605818aFmt
open Go.RowKit Go.Maps
set_option linter.unusedVariables false

def litSite : ByteArray := ⟨#[115, 105, 116, 101]⟩
def litSel : ByteArray := ⟨#[115, 101, 108, 101, 99, 116, 32, 49]⟩
theorem info61 : (Tryf.prog.info? 61).map (fun i => (i.zero, i.size, i.bytes)) = some (some (.agg #[.string ⟨#[]⟩, .string ⟨#[]⟩, .int .i64 0, .slice none 0 0, .slice none 0 0]), 5, 88) := by kernel_rfl
theorem info64 : (Tryf.prog.info? 64).map (fun i => (i.zero, i.size, i.bytes)) = some (some (.agg #[.slice none 0 0, .slice none 0 0]), 2, 48) := by kernel_rfl

theorem makeSub (n : Nat) (h : n ≤ 2000000) (w : World) : (Instr.makeSlice 44 (.int .i64 (n : Int)) (.int .i64 (n : Int))).run Tryf.prog w = .ok (.slice (some ⟨w.heap.size, 0, none⟩) n n) (w.alloc (.cells (madeCells #[.string ⟨#[]⟩, .string ⟨#[]⟩, .int .i64 0, .slice none 0 0, .slice none 0 0] (n * 5)) 61)) := by
  obtain ⟨i, hi, hz, h1, h2⟩ := info_parts info61
  have := run_make (P := Tryf.prog) w 44 61 i _ Tryf.underlying44 hi hz .i64 .i64 (n : Int) (n : Int) (by omega) (by omega) (by rw [h2]; omega) (by omega)
  rw [this, h1, Int.toNat_natCast]
  rfl
theorem makePref (n : Nat) (h : n ≤ 2000000) (w : World) : (Instr.makeSlice 46 (.int .i64 (n : Int)) (.int .i64 (n : Int))).run Tryf.prog w = .ok (.slice (some ⟨w.heap.size, 0, none⟩) n n) (w.alloc (.cells (madeCells #[.slice none 0 0, .slice none 0 0] (n * 2)) 64)) := by
  obtain ⟨i, hi, hz, h1, h2⟩ := info_parts info64
  have := run_make (P := Tryf.prog) w 46 64 i _ Tryf.underlying46 hi hz .i64 .i64 (n : Int) (n : Int) (by omega) (by omega) (by rw [h2]; omega) (by omega)
  rw [this, h1, Int.toNat_natCast]
  rfl

theorem madeCells_get (z : Array Value) (n i : Nat) (hz : 0 < z.size) (hi : i < n) : (madeCells z n)[i]? = some (z[i % z.size]!) := by
  simp [madeCells, hi]

theorem rowIs_made5 (w : World) (v0 v1 v2 v3 v4 : Value) (n : Nat) (t : TypeId) : (w.alloc (.cells (madeCells #[v0, v1, v2, v3, v4] (n * 5)) t)).rowIs w.heap.size t (n * 5) (fun j => #[v0, v1, v2, v3, v4][j % 5]!) :=
  ⟨_, Deep.blk_alloc_new _ _, size_madeCells _ _, fun i hi => by rw [madeCells_get _ _ _ (by simp) hi]; rfl⟩

theorem keepB {w w' : World} {p : Addr} {v : Value} (hb : Hid (Below w.heap.size w w')) (hc : Hid (w.cell? p = some v)) : w'.cell? p = some v := (hb.out.cell (cell_lt hc.out)).trans hc.out
theorem keepSet {w' : World} {p a : Addr} {v u : Value} (h : w'.cell? p = some v) (hne : p.block ≠ a.block) : (w'.setCell a u).cell? p = some v :=
  (World.cell?_of_block (w := w') (Below.heap_setCell _ _ _ _ hne)).trans h

/-- The preferences' row, its first q laid. -/
def PrefJ (w : World) (Pb : Nat) (s : Nat → ByteArray) (pl ql : Nat → Nat) (zp zo : Nat → Nat → Int) (G : Nat → Value) (q : Nat) : Prop :=
  ∀ j, j < q → ∃ x y : Nat, G (j * 2) = .slice (some ⟨x, 0, none⟩) (pl j) (pl j) ∧ G (j * 2 + 1) = .slice (some ⟨y, 0, none⟩) (ql j) (ql j) ∧ Pb < x ∧ Pb < y ∧ w.rowIs x 9 (pl j) (strV (pick s (zp j))) ∧ w.rowIs y 9 (ql j) (strV (pick s (zo j)))

theorem pref_step {w0 wr w2 : World} {Pb n lp q x y : Nat} {s : Nat → ByteArray} {pl ql : Nat → Nat} {zp zo : Nat → Nat → Int} {F G : Nat → Value} (hG : wr.rowIs Pb 64 (lp * 2) G) (hJ : PrefJ wr Pb s pl ql zp zo G q) (hR : wr.rowIs w0.heap.size 61 (n * 5) F) (hB : Below w0.heap.size w0 wr)
    (hB2 : Below wr.heap.size wr w2) (hx : w2.rowIs x 9 (pl q) (strV (pick s (zp q)))) (hy : w2.rowIs y 9 (ql q) (strV (pick s (zo q)))) (hPx : Pb < x) (hPy : Pb < y) (hP : w0.heap.size < Pb) :
    ∃ G', ((w2.setCell ⟨Pb, q * 2, none⟩ (.slice (some ⟨x, 0, none⟩) (pl q) (pl q))).setCell ⟨Pb, q * 2 + 1, none⟩ (.slice (some ⟨y, 0, none⟩) (ql q) (ql q))).rowIs Pb 64 (lp * 2) G' ∧
      PrefJ ((w2.setCell ⟨Pb, q * 2, none⟩ (.slice (some ⟨x, 0, none⟩) (pl q) (pl q))).setCell ⟨Pb, q * 2 + 1, none⟩ (.slice (some ⟨y, 0, none⟩) (ql q) (ql q))) Pb s pl ql zp zo G' (q + 1) ∧
      ((w2.setCell ⟨Pb, q * 2, none⟩ (.slice (some ⟨x, 0, none⟩) (pl q) (pl q))).setCell ⟨Pb, q * 2 + 1, none⟩ (.slice (some ⟨y, 0, none⟩) (ql q) (ql q))).rowIs w0.heap.size 61 (n * 5) F ∧
      Below w0.heap.size w0 ((w2.setCell ⟨Pb, q * 2, none⟩ (.slice (some ⟨x, 0, none⟩) (pl q) (pl q))).setCell ⟨Pb, q * 2 + 1, none⟩ (.slice (some ⟨y, 0, none⟩) (ql q) (ql q))) := by
  have oth : ∀ {b m t f}, w2.rowIs b t m f → b ≠ Pb → ((w2.setCell ⟨Pb, q * 2, none⟩ (.slice (some ⟨x, 0, none⟩) (pl q) (pl q))).setCell ⟨Pb, q * 2 + 1, none⟩ (.slice (some ⟨y, 0, none⟩) (ql q) (ql q))).rowIs b t m f := fun h hne => (h.setOther (by exact hne) _).setOther (by exact hne) _
  refine ⟨_, (((rowIs_below hG hB2).set (q * 2) _).set (q * 2 + 1) _), fun j hj => ?_, oth (rowIs_below hR hB2) (by omega), ((hB.trans (hB2.mono hB.size)).setCell (by show _ ≤ Pb; omega) _).setCell (by show _ ≤ Pb; omega) _⟩
  by_cases e : j = q
  · subst e
    refine ⟨x, y, ?_, ?_, hPx, hPy, oth hx (by omega), oth hy (by omega)⟩
    · show (if j * 2 = j * 2 + 1 then _ else if j * 2 = j * 2 then _ else _) = _
      rw [if_neg (by omega), if_pos rfl]
    · show (if j * 2 + 1 = j * 2 + 1 then _ else _) = _
      rw [if_pos rfl]
  · obtain ⟨x', y', g1, g2, g3, g4, g5, g6⟩ := hJ j (by omega)
    refine ⟨x', y', ?_, ?_, g3, g4, oth (rowIs_below g5 hB2) (by omega), oth (rowIs_below g6 hB2) (by omega)⟩
    · show (if j * 2 = q * 2 + 1 then _ else if j * 2 = q * 2 then _ else _) = _
      rw [if_neg (by omega), if_neg (by omega)]
      exact g1
    · show (if j * 2 + 1 = q * 2 + 1 then _ else if j * 2 + 1 = q * 2 then _ else _) = _
      rw [if_neg (by omega), if_neg (by omega)]
      exact g2

def litFrom : ByteArray := ⟨#[102, 114, 111, 109]⟩
def litTo : ByteArray := ⟨#[116, 111]⟩
def litLaw : ByteArray := ⟨#[108, 97, 119]⟩
def slB (b n : Nat) : Value := .slice (some ⟨b, 0, none⟩) n n

/-- The definition in memory: its block, its subtransactions' row, its two orders' row, its preferences' row. -/
structure DefAt (w : World) (d S O P m0 p0 m1 p1 n lm la lp : Nat) (F G : Nat → Value) (s M f g : Nat → ByteArray) (pl ql : Nat → Nat) (zp zo : Nat → Nat → Int) : Prop where
  blk : w.heap[d]? = some (.cells #[.string litLaw, .slice (some ⟨S, 0, none⟩) n n, .slice (some ⟨O, 0, none⟩) 2 2, .slice (some ⟨P, 0, none⟩) lp lp] 48 (0, 0))
  subs : w.rowIs S 61 (n * 5) F
  ids : ∀ j, j < n → F (j * 5) = .string (s j)
  ords : w.heap[O]? = some (.cells #[.string litFrom, .slice (some ⟨m0, 0, none⟩) lm lm, .slice (some ⟨p0, 0, none⟩) la la, .string litTo, .slice (some ⟨m1, 0, none⟩) lm lm, .slice (some ⟨p1, 0, none⟩) la la] 43 (0, 0))
  mem0 : w.rowIs m0 9 lm (strV M)
  prec0 : w.rowIs p0 72 (la * 2) (pairV f g)
  mem1 : w.rowIs m1 9 lm (strV M)
  prec1 : w.rowIs p1 72 (la * 2) (pairV f g)
  prefs : w.rowIs P 64 (lp * 2) G
  pref : PrefJ w P s pl ql zp zo G lp

theorem block_lt {w : World} {b : Nat} {o : Obj} (h : w.heap[b]? = some o) : b < w.heap.size := (Array.getElem?_eq_some_iff.1 h).1

theorem DefAt.below {w w' : World} {d S O P m0 p0 m1 p1 n lm la lp : Nat} {F G : Nat → Value} {s M f g : Nat → ByteArray} {pl ql : Nat → Nat} {zp zo : Nat → Nat → Int} (h : DefAt w d S O P m0 p0 m1 p1 n lm la lp F G s M f g pl ql zp zo) (hb : Below w.heap.size w w') : DefAt w' d S O P m0 p0 m1 p1 n lm la lp F G s M f g pl ql zp zo := by
  refine ⟨(hb.block _ (block_lt h.blk)).trans h.blk, rowIs_below h.subs hb, h.ids, (hb.block _ (block_lt h.ords)).trans h.ords, rowIs_below h.mem0 hb, rowIs_below h.prec0 hb, rowIs_below h.mem1 hb, rowIs_below h.prec1 hb, rowIs_below h.prefs hb, fun j hj => ?_⟩
  obtain ⟨x, y, g1, g2, g3, g4, g5, g6⟩ := h.pref j hj
  exact ⟨x, y, g1, g2, g3, g4, rowIs_below g5 hb, rowIs_below g6 hb⟩

theorem PrefJ.below {w w' : World} {Pb q : Nat} {s : Nat → ByteArray} {pl ql : Nat → Nat} {zp zo : Nat → Nat → Int} {G : Nat → Value} (h : PrefJ w Pb s pl ql zp zo G q) (hb : Below w.heap.size w w') : PrefJ w' Pb s pl ql zp zo G q := fun j hj => by
  obtain ⟨x, y, g1, g2, g3, g4, g5, g6⟩ := h j hj
  exact ⟨x, y, g1, g2, g3, g4, rowIs_below g5 hb, rowIs_below g6 hb⟩

set_option maxRecDepth 100000 in
set_option maxHeartbeats 2000000 in
theorem twoOrderDef_any (a0 a1 a2 a3 a7 a8 : Option Addr) (n c0 lm c1 la c2 c3 lp c7 c8 : Nat) (s : Nat → ByteArray) (zm za zb : Nat → Int) (pa qa : Nat → Option Addr) (pl pc ql qc : Nat → Nat) (zp zo : Nat → Nat → Int) (w : World)
    (b0 : n ≤ 4096) (b1 : lm ≤ 4096) (b2 : la ≤ 4096) (b7 : lp ≤ 4096) (hpl : ∀ i, i < lp → pl i ≤ 2000000) (hql : ∀ i, i < lp → ql i ≤ 2000000)
    (h0 : Sl w a0 n (strV s)) (h1 : Sl w a1 lm (intV zm)) (h2 : Sl w a2 la (intV za)) (h3 : Sl w a3 la (intV zb)) (h7 : Rows2 w a7 lp pa pl pc zp) (h8 : Rows2 w a8 lp qa ql qc zo)
    (im : allIn n zm lm) (ia : allIn n za la) (ib : allIn n zb la) (ip : ∀ q, q < lp → allIn n (zp q) (pl q)) (io : ∀ q, q < lp → allIn n (zo q) (ql q)) :
    Calls Tryf.prog 13 #[.slice a0 n c0, .slice a1 lm c1, .slice a2 la c2, .slice a3 la c3, .slice a1 lm c1, .slice a2 la c2, .slice a3 la c3, .slice a7 lp c7, .slice a8 lp c8] w fun e w' => ∃ d S O P m0 p0 m1 p1 F G, e = .returned (.pointer (some ⟨d, 0, none⟩)) ∧ DefAt w' d S O P m0 p0 m1 p1 n lm la lp F G s (pick s zm) (pick s za) (pick s zb) pl ql zp zo ∧ Below w.heap.size w w' := by
  have H0 : Hid (Sl w a0 n (strV s)) := h0
  have H1 : Hid (Sl w a1 lm (intV zm)) := h1
  have H2 : Hid (Sl w a2 la (intV za)) := h2
  have H3 : Hid (Sl w a3 la (intV zb)) := h3
  have H7 : Hid (Rows2 w a7 lp pa pl pc zp) := h7
  have H8 : Hid (Rows2 w a8 lp qa ql qc zo) := h8
  have i0 : (n : Int) ≤ 4096 := by omega
  have i7 : (lp : Int) ≤ 4096 := by omega
  have hms := fun w => makeSub n (by omega) w
  have hmp := fun w => makePref lp (by omega) w
  clear h0 h1 h2 h3 h7 h8
  go_enter Tryf.func13, Tryf.ntmps13
  go_wp2
  go_loopw [20] (fun i wr => ∃ k : Nat, k ≤ n ∧ i = .int .i64 k ∧ ∃ F : Nat → Value, Hid (wr.rowIs w.heap.size 61 (n * 5) F) ∧ Hid (∀ j, j < k → F (j * 5) = .string (s j)) ∧ Hid (Below w.heap.size w wr)) (fun i _ => n - (intOf i).toNat)
  case atStart =>
    exact ⟨0, Nat.zero_le _, rfl, _, rowIs_made5 w _ _ _ _ _ n 61, fun j hj => absurd hj (by omega), (Below.refl _ _).alloc (Nat.le_refl _) _⟩
  case round =>
    obtain ⟨k, hk, rfl, F, HR, HF, HB⟩ := hrel
    by_cases hlt : k < n
    · obtain ⟨y, hy, hc⟩ := H0.out k hlt
      subst hy
      have hc' : wr.cell? (y.add k) = some (.string (s k)) := (HB.out.cell (cell_lt hc)).trans hc
      have hlti : (k : Int) < (n : Int) := by omega
      have hsz := HB.out.size
      have hRl := HR.out.lt
      have k0 := HR.out.cell (i := k * 5) (by omega)
      have k1 := HR.out.cell (i := k * 5 + 1) (by omega)
      have k2 := HR.out.cell (i := k * 5 + 2) (by omega)
      have k3 := HR.out.cell (i := k * 5 + 3) (by omega)
      have k4 := HR.out.cell (i := k * 5 + 4) (by omega)
      have f0 := HR.out.frozen (k * 5)
      have f1 := HR.out.frozen (k * 5 + 1)
      have f2 := HR.out.frozen (k * 5 + 2)
      have f3 := HR.out.frozen (k * 5 + 3)
      have f4 := HR.out.frozen (k * 5 + 4)
      clear hc
      go_wp2
      refine ⟨⟨k + 1, by omega, by go_num, _, (World.rowIs.alloc (World.rowIs.alloc (((((HR.out.set _ _).set _ _).set _ _).set _ _).set _ _) _) _), fun j hj => ?_, ?_⟩, ?_⟩
      · by_cases e : j = k
        · subst e
          rw [if_neg (by omega), if_neg (by omega), if_neg (by omega), if_neg (by omega), if_pos rfl]
        · rw [if_neg (by omega), if_neg (by omega), if_neg (by omega), if_neg (by omega), if_neg (by omega)]
          exact HF.out j (by omega)
      · exact ((((((HB.out.setCell (Nat.le_refl _) _).setCell (Nat.le_refl _) _).setCell (Nat.le_refl _) _).setCell (Nat.le_refl _) _).setCell (Nat.le_refl _) _).alloc (by simp; omega) _).alloc (by simp; omega) _
      · simp [intOf]; omega
    · obtain rfl : n = k := by omega
      have hsz := HB.out.size
      have hRl := HR.out.lt
      go_wp2
      obtain ⟨Pb, hPb⟩ : ∃ Pb, wr.heap.size = Pb := ⟨_, rfl⟩
      obtain ⟨wp, hwp⟩ : ∃ wp, wr.alloc (.cells (madeCells #[.slice none 0 0, .slice none 0 0] (lp * 2)) 64) = wp := ⟨_, rfl⟩
      have hPR : wp.rowIs Pb 64 (lp * 2) (fun _ => .slice none 0 0) := by rw [← hwp, ← hPb]; exact rowIs_made2 wr _ lp 64
      have hR' : wp.rowIs w.heap.size 61 (n * 5) F := by rw [← hwp]; exact HR.out.alloc _
      have hB' : Below w.heap.size w wp := by rw [← hwp]; exact HB.out.alloc hsz _
      rw [hPb, hwp]
      have hPl : w.heap.size < Pb := by omega
      have HPR : Hid (wp.rowIs Pb 64 (lp * 2) (fun _ => .slice none 0 0)) := hPR
      have HR' : Hid (wp.rowIs w.heap.size 61 (n * 5) F) := hR'
      have HB' : Hid (Below w.heap.size w wp) := hB'
      have HNA : Hid (∀ q w', q < lp → Below w.heap.size w w' → Calls Tryf.prog 21 #[.slice a0 n c0, .slice (pa q) (pl q) (pc q)] w' fun e w'' => e = .returned (.slice (some ⟨w'.heap.size, 0, none⟩) (pl q) (pl q)) ∧ w''.rowIs w'.heap.size 9 (pl q) (strV (pick s (zp q))) ∧ Below w'.heap.size w' w'') := fun q w' hq hb => names_any a0 (pa q) n c0 (pl q) (pc q) s (zp q) w' (by omega) (hpl q hq) (H0.out.below hb) ((H7.out.inn q hq).below hb) (ip q hq)
      have HNO : Hid (∀ q w', q < lp → Below w.heap.size w w' → Calls Tryf.prog 21 #[.slice a0 n c0, .slice (qa q) (ql q) (qc q)] w' fun e w'' => e = .returned (.slice (some ⟨w'.heap.size, 0, none⟩) (ql q) (ql q)) ∧ w''.rowIs w'.heap.size 9 (ql q) (strV (pick s (zo q))) ∧ Below w'.heap.size w' w'') := fun q w' hq hb => names_any a0 (qa q) n c0 (ql q) (qc q) s (zo q) w' (by omega) (hql q hq) (H0.out.below hb) ((H8.out.inn q hq).below hb) (io q hq)
      clear hPR hR' hB' hPb hwp hRl hpl hql ip io
      go_loopw [22] (fun i wr => ∃ q : Nat, q ≤ lp ∧ i = .int .i64 q ∧ ∃ G : Nat → Value, Hid (wr.rowIs Pb 64 (lp * 2) G) ∧ Hid (PrefJ wr Pb s pl ql zp zo G q) ∧ Hid (wr.rowIs w.heap.size 61 (n * 5) F) ∧ Hid (Below w.heap.size w wr)) (fun i _ => lp - (intOf i).toNat)
      case atStart =>
        exact ⟨0, Nat.zero_le _, rfl, _, HPR, fun j hj => absurd hj (by omega), HR', HB'⟩
      case round =>
        clear HPR HR' HB' HR HB hsz
        obtain ⟨q, hq, rfl, G, HG, HGJ, HR, HB⟩ := hrel
        by_cases hlt : q < lp
        · obtain ⟨y, hy, hc⟩ := H7.out.out q hlt
          obtain ⟨y', hy', hcb⟩ := H8.out.out q hlt
          subst hy
          subst hy'
          have hc' : wr.cell? (y.add q) = some (.slice (pa q) (pl q) (pc q)) := (HB.out.cell (cell_lt hc)).trans hc
          have hcb' : wr.cell? (y'.add q) = some (.slice (qa q) (ql q) (qc q)) := (HB.out.cell (cell_lt hcb)).trans hcb
          have HC0 : Hid (w.cell? (y.add q) = some (.slice (pa q) (pl q) (pc q))) := hc
          have HC1 : Hid (w.cell? (y'.add q) = some (.slice (qa q) (ql q) (qc q))) := hcb
          have hb1 : (y.add q).block < w.heap.size := cell_lt hc
          have hb2 : (y'.add q).block < w.heap.size := cell_lt hcb
          have hlti : (q : Int) < (lp : Int) := by omega
          have hGl := HG.out.lt
          have g0 := HG.out.cell (i := q * 2) (by omega)
          have g1 := HG.out.cell (i := q * 2 + 1) (by omega)
          have e0 := HG.out.frozen (q * 2)
          have e1 := HG.out.frozen (q * 2 + 1)
          have HBD : Hid (Below w.heap.size w wr.drew) := HB.out.drew
          have HBW : Hid (Below wr.heap.size wr wr.drew) := (Below.refl _ _).drew
          have HGW : Hid (∀ w', Below wr.heap.size wr w' → w'.cell? ⟨Pb, q * 2, none⟩ = some (G (q * 2)) ∧ w'.cell? ⟨Pb, q * 2 + 1, none⟩ = some (G (q * 2 + 1)) ∧ w'.frozen? ⟨Pb, q * 2, none⟩ = false ∧ w'.frozen? ⟨Pb, q * 2 + 1, none⟩ = false) := fun w' hb => by
            have := rowIs_below HG.out hb
            exact ⟨this.cell (by omega), this.cell (by omega), this.frozen _, this.frozen _⟩
          clear hc hcb g0 g1 e0 e1
          go_wp2
          go_region_held3 (fun w' => w'.cell? (y.add q) = some (.slice (pa q) (pl q) (pc q)) ∧ w'.cell? (y'.add q) = some (.slice (qa q) (ql q) (qc q)))
            (refine ⟨?_, ?_⟩ <;> first | (rw [World.cell?_drew]; assumption) | exact keepB (by assumption) (by assumption) | exact keepSet (keepSet (keepB (by assumption) (by assumption)) (by show _ ≠ Pb; omega)) (by show _ ≠ Pb; omega))
            (first
              | (with_reducible refine Calls.mono (HNA.out q _ hlt (Hid.out (by assumption))) ?_
                 rintro e wa ⟨rfl, hrA, hbA⟩
                 have HBA : Hid (Below w.heap.size w wa) := Below.trans (Hid.out (by assumption)) (hbA.mono (Below.size (Hid.out (by assumption))))
                 have HBWA : Hid (Below wr.heap.size wr wa) := Below.trans (Hid.out (by assumption)) (hbA.mono (Below.size (Hid.out (by assumption))))
                 obtain ⟨x1, x2, x3, x4⟩ := HGW.out wa HBWA.out)
              | (with_reducible refine Calls.mono (HNO.out q _ hlt (Hid.out (by assumption))) ?_
                 rintro e wb ⟨rfl, hrB, hbB⟩
                 have HBB : Hid (Below w.heap.size w wb) := Below.trans (Hid.out (by assumption)) (hbB.mono (Below.size (Hid.out (by assumption))))
                 have HBWB : Hid (Below wr.heap.size wr wb) := Below.trans (Hid.out (by assumption)) (hbB.mono (Below.size (Hid.out (by assumption))))
                 obtain ⟨y1, y2, y3, y4⟩ := HGW.out wb HBWB.out))
          obtain ⟨G', r1, r2, r3, r4⟩ := pref_step HG.out HGJ.out HR.out HB.out HBWB.out (rowIs_below hrA hbB) hrB (by show Pb < wr.heap.size; exact hGl) (by have := HBWA.out.size; omega) hPl
          have R1 : Hid _ := r1
          have R2 : Hid _ := r2
          have R3 : Hid _ := r3
          have R4 : Hid _ := r4
          clear r1 r2 r3 r4 hrA hbA hrB hbB x1 x2 x3 x4 y1 y2 y3 y4
          go_wp2
          refine ⟨⟨q + 1, by omega, by go_num, G', R1, R2, R3, R4⟩, ?_⟩
          simp [intOf]; omega
        · obtain rfl : lp = q := by omega
          have HOR : Hid (∀ nm w', Below w.heap.size w w' → Calls Tryf.prog 22 #[.string nm, .slice a0 n c0, .slice a1 lm c1, .slice a2 la c2, .slice a3 la c3] w' fun e w'' => ∃ v, e = .returned v ∧ OrderAt w'' v nm lm la (pick s zm) (pick s za) (pick s zb) ∧ Below w'.heap.size w' w'') := fun nm w' hb => orderOf_any nm a0 a1 a2 a3 n c0 lm c1 la c2 c3 s zm za zb w' (by omega) (by omega) (by omega) (H0.out.below hb) (H1.out.below hb) (H2.out.below hb) (H3.out.below hb) im ia ib
          clear im ia ib
          go_wp2_with fail
          refine Calls.mono (HOR.out _ wr HB.out) ?_
          rintro e w1 ⟨v1, rfl, ⟨m0, p0, rfl, hm0, hp0⟩, hb1⟩
          have HB1 : Hid (Below w.heap.size w w1) := HB.out.trans (hb1.mono HB.out.size)
          have HM0 : Hid (w1.rowIs m0 9 lm (strV (pick s zm))) := hm0
          have HP0 : Hid (w1.rowIs p0 72 (la * 2) (pairV (pick s za) (pick s zb))) := hp0
          have HW1 : Hid (Below wr.heap.size wr w1) := hb1
          clear hm0 hp0 hb1
          go_wp2_with fail
          refine Calls.mono (HOR.out _ w1 HB1.out) ?_
          rintro e w2 ⟨v2, rfl, ⟨m1, p1, rfl, hm1, hp1⟩, hb2⟩
          have HB2 : Hid (Below w.heap.size w w2) := HB1.out.trans (hb2.mono HB1.out.size)
          have HM1 : Hid (w2.rowIs m1 9 lm (strV (pick s zm))) := hm1
          have HP1 : Hid (w2.rowIs p1 72 (la * 2) (pairV (pick s za) (pick s zb))) := hp1
          have HW2 : Hid (Below w1.heap.size w1 w2) := hb2
          clear hm1 hp1 hb2
          go_wp2
          go_ret
          have t1 := HW1.out.trans (HW2.out.mono HW1.out.size)
          have al : ∀ o1 o2, Below w2.heap.size w2 ((w2.alloc o1).alloc o2) := fun o1 o2 => ((Below.refl _ _).alloc (Nat.le_refl _) _).alloc (by simp) _
          refine ⟨_, w.heap.size, w2.heap.size, Pb, m0, p0, m1, p1, F, G, rfl, ⟨?_, rowIs_below (rowIs_below HR.out t1) (al _ _), HF.out, ?_, rowIs_below (rowIs_below HM0.out HW2.out) (al _ _), rowIs_below (rowIs_below HP0.out HW2.out) (al _ _), rowIs_below HM1.out (al _ _), rowIs_below HP1.out (al _ _), rowIs_below (rowIs_below HG.out t1) (al _ _), (HGJ.out.below t1).below (al _ _)⟩, HB2.out.trans ((al _ _).mono HB2.out.size)⟩
          · exact heap_alloc2_new _ _ _
          · exact heap_alloc2_old _ _ _
end Go.Proofs.Qxb6605818aFmt
