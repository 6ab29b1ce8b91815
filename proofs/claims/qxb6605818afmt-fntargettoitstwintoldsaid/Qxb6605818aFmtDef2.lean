import Derived.Test.Qxb6605818aFmtDef
import Derived.Deep.RegionHeld3
namespace Go.Proofs.Qxb6605818aFmt
open Go.RowKit Go.Maps
set_option linter.unusedVariables false

set_option maxRecDepth 100000 in
set_option maxHeartbeats 2000000 in
theorem twoOrderDef_any2 (a0 a1 a2 a3 a7 a8 : Option Addr) (n c0 lm c1 la c2 c3 lp c7 c8 : Nat) (s : Nat → ByteArray) (zm za zb : Nat → Int) (pa qa : Nat → Option Addr) (pl pc ql qc : Nat → Nat) (zp zo : Nat → Nat → Int) (w : World)
    (b0 : n ≤ 4096) (b1 : lm ≤ 4096) (b2 : la ≤ 4096) (b7 : lp ≤ 4096) (hpl : ∀ i, i < lp → pl i ≤ 2000000) (hql : ∀ i, i < lp → ql i ≤ 2000000)
    (h0 : Sl w a0 n (strV s)) (h1 : Sl w a1 lm (intV zm)) (h2 : Sl w a2 la (intV za)) (h3 : Sl w a3 la (intV zb)) (h7 : Rows2 w a7 lp pa pl pc zp) (h8 : Rows2 w a8 lp qa ql qc zo)
    (im : allIn n zm lm) (ia : allIn n za la) (ib : allIn n zb la) (ip : ∀ q, q < lp → allIn n (zp q) (pl q)) (io : ∀ q, q < lp → allIn n (zo q) (ql q)) :
    Calls Tryf.prog 13 #[.slice a0 n c0, .slice a1 lm c1, .slice a2 la c2, .slice a3 la c3, .slice a1 lm c1, .slice a2 la c2, .slice a3 la c3, .slice a7 lp c7, .slice a8 lp c8] w fun e w' => ∃ d S O P m0 p0 m1 p1 F G, e = .returned (.pointer (some ⟨d, 0, none⟩)) ∧ (DefAt w' d S O P m0 p0 m1 p1 n lm la lp F G s (pick s zm) (pick s za) (pick s zb) pl ql zp zo ∧ ∀ j, j < n → ∃ y z a b l c l' c', F (j * 5 + 1) = .string y ∧ F (j * 5 + 2) = .int .i64 z ∧ F (j * 5 + 3) = .slice a l c ∧ F (j * 5 + 4) = .slice b l' c') ∧ Below w.heap.size w w' := by
  have H0 : Hid (Sl w a0 n (strV s)) := h0
  have H1 : Hid (Sl w a1 lm (intV zm)) := h1
  have H2 : Hid (Sl w a2 la (intV za)) := h2
  have H3 : Hid (Sl w a3 la (intV zb)) := h3
  have H7 : Hid (Rows2 w a7 lp pa pl pc zp) := h7
  have H8 : Hid (Rows2 w a8 lp qa ql qc zo) := h8
  have i0 : (n : Int) ≤ 4096 := by omega
  have i7 : (lp : Int) ≤ 4096 := by omega
  have hms := fun w => makeSub n (by omega) w
  have hmp := fun w => makePref lp (by omega) w
  clear h0 h1 h2 h3 h7 h8
  go_enter Tryf.func13, Tryf.ntmps13
  go_wp2
  go_loopw [20] (fun i wr => ∃ k : Nat, k ≤ n ∧ i = .int .i64 k ∧ ∃ F : Nat → Value, Hid (wr.rowIs w.heap.size 61 (n * 5) F) ∧ Hid (∀ j, j < k → F (j * 5) = .string (s j)) ∧ Hid (∀ j, j < k → ∃ y z a b l c l' c', F (j * 5 + 1) = .string y ∧ F (j * 5 + 2) = .int .i64 z ∧ F (j * 5 + 3) = .slice a l c ∧ F (j * 5 + 4) = .slice b l' c') ∧ Hid (Below w.heap.size w wr)) (fun i _ => n - (intOf i).toNat)
  case atStart =>
    exact ⟨0, Nat.zero_le _, rfl, _, rowIs_made5 w _ _ _ _ _ n 61, fun j hj => absurd hj (by omega), fun j hj => absurd hj (by omega), (Below.refl _ _).alloc (Nat.le_refl _) _⟩
  case round =>
    obtain ⟨k, hk, rfl, F, HR, HF, HF1, HB⟩ := hrel
    by_cases hlt : k < n
    · obtain ⟨y, hy, hc⟩ := H0.out k hlt
      subst hy
      have hc' : wr.cell? (y.add k) = some (.string (s k)) := (HB.out.cell (cell_lt hc)).trans hc
      have hlti : (k : Int) < (n : Int) := by omega
      have hsz := HB.out.size
      have hRl := HR.out.lt
      have k0 := HR.out.cell (i := k * 5) (by omega)
      have k1 := HR.out.cell (i := k * 5 + 1) (by omega)
      have k2 := HR.out.cell (i := k * 5 + 2) (by omega)
      have k3 := HR.out.cell (i := k * 5 + 3) (by omega)
      have k4 := HR.out.cell (i := k * 5 + 4) (by omega)
      have f0 := HR.out.frozen (k * 5)
      have f1 := HR.out.frozen (k * 5 + 1)
      have f2 := HR.out.frozen (k * 5 + 2)
      have f3 := HR.out.frozen (k * 5 + 3)
      have f4 := HR.out.frozen (k * 5 + 4)
      clear hc
      go_wp2
      refine ⟨⟨k + 1, by omega, by go_num, _, (World.rowIs.alloc (World.rowIs.alloc (((((HR.out.set _ _).set _ _).set _ _).set _ _).set _ _) _) _), fun j hj => ?_, fun j hj => ?_, ?_⟩, ?_⟩
      · by_cases e : j = k
        · subst e
          rw [if_neg (by omega), if_neg (by omega), if_neg (by omega), if_neg (by omega), if_pos rfl]
        · rw [if_neg (by omega), if_neg (by omega), if_neg (by omega), if_neg (by omega), if_neg (by omega)]
          exact HF.out j (by omega)
      · by_cases e : j = k
        · subst e
          refine ⟨⟨#[115, 105, 116, 101]⟩, 1, some ⟨wr.heap.size, 0, none⟩, some ⟨wr.heap.size + 1, 0, none⟩, 1, 1, 1, 1, ?_, ?_, ?_, ?_⟩
          · rw [if_neg (by omega), if_neg (by omega), if_neg (by omega), if_pos rfl]
          · rw [if_neg (by omega), if_neg (by omega), if_pos rfl]
          · rw [if_neg (by omega), if_pos rfl]
          · rw [if_pos rfl]
        · obtain ⟨y, z, a, b, l, c, l', c', h1, h2, h3, h4⟩ := HF1.out j (by omega)
          refine ⟨y, z, a, b, l, c, l', c', ?_, ?_, ?_, ?_⟩
          all_goals
            rw [if_neg (by omega), if_neg (by omega), if_neg (by omega), if_neg (by omega), if_neg (by omega)]
            assumption
      · exact ((((((HB.out.setCell (Nat.le_refl _) _).setCell (Nat.le_refl _) _).setCell (Nat.le_refl _) _).setCell (Nat.le_refl _) _).setCell (Nat.le_refl _) _).alloc (by simp; omega) _).alloc (by simp; omega) _
      · simp [intOf]; omega
    · obtain rfl : n = k := by omega
      have hsz := HB.out.size
      have hRl := HR.out.lt
      go_wp2
      obtain ⟨Pb, hPb⟩ : ∃ Pb, wr.heap.size = Pb := ⟨_, rfl⟩
      obtain ⟨wp, hwp⟩ : ∃ wp, wr.alloc (.cells (madeCells #[.slice none 0 0, .slice none 0 0] (lp * 2)) 64) = wp := ⟨_, rfl⟩
      have hPR : wp.rowIs Pb 64 (lp * 2) (fun _ => .slice none 0 0) := by rw [← hwp, ← hPb]; exact rowIs_made2 wr _ lp 64
      have hR' : wp.rowIs w.heap.size 61 (n * 5) F := by rw [← hwp]; exact HR.out.alloc _
      have hB' : Below w.heap.size w wp := by rw [← hwp]; exact HB.out.alloc hsz _
      rw [hPb, hwp]
      have hPl : w.heap.size < Pb := by omega
      have HPR : Hid (wp.rowIs Pb 64 (lp * 2) (fun _ => .slice none 0 0)) := hPR
      have HR' : Hid (wp.rowIs w.heap.size 61 (n * 5) F) := hR'
      have HB' : Hid (Below w.heap.size w wp) := hB'
      have HNA : Hid (∀ q w', q < lp → Below w.heap.size w w' → Calls Tryf.prog 21 #[.slice a0 n c0, .slice (pa q) (pl q) (pc q)] w' fun e w'' => e = .returned (.slice (some ⟨w'.heap.size, 0, none⟩) (pl q) (pl q)) ∧ w''.rowIs w'.heap.size 9 (pl q) (strV (pick s (zp q))) ∧ Below w'.heap.size w' w'') := fun q w' hq hb => names_any a0 (pa q) n c0 (pl q) (pc q) s (zp q) w' (by omega) (hpl q hq) (H0.out.below hb) ((H7.out.inn q hq).below hb) (ip q hq)
      have HNO : Hid (∀ q w', q < lp → Below w.heap.size w w' → Calls Tryf.prog 21 #[.slice a0 n c0, .slice (qa q) (ql q) (qc q)] w' fun e w'' => e = .returned (.slice (some ⟨w'.heap.size, 0, none⟩) (ql q) (ql q)) ∧ w''.rowIs w'.heap.size 9 (ql q) (strV (pick s (zo q))) ∧ Below w'.heap.size w' w'') := fun q w' hq hb => names_any a0 (qa q) n c0 (ql q) (qc q) s (zo q) w' (by omega) (hql q hq) (H0.out.below hb) ((H8.out.inn q hq).below hb) (io q hq)
      clear hPR hR' hB' hPb hwp hRl hpl hql ip io
      go_loopw [22] (fun i wr => ∃ q : Nat, q ≤ lp ∧ i = .int .i64 q ∧ ∃ G : Nat → Value, Hid (wr.rowIs Pb 64 (lp * 2) G) ∧ Hid (PrefJ wr Pb s pl ql zp zo G q) ∧ Hid (wr.rowIs w.heap.size 61 (n * 5) F) ∧ Hid (Below w.heap.size w wr)) (fun i _ => lp - (intOf i).toNat)
      case atStart =>
        exact ⟨0, Nat.zero_le _, rfl, _, HPR, fun j hj => absurd hj (by omega), HR', HB'⟩
      case round =>
        clear HPR HR' HB' HR HB hsz
        obtain ⟨q, hq, rfl, G, HG, HGJ, HR, HB⟩ := hrel
        by_cases hlt : q < lp
        · obtain ⟨y, hy, hc⟩ := H7.out.out q hlt
          obtain ⟨y', hy', hcb⟩ := H8.out.out q hlt
          subst hy
          subst hy'
          have hc' : wr.cell? (y.add q) = some (.slice (pa q) (pl q) (pc q)) := (HB.out.cell (cell_lt hc)).trans hc
          have hcb' : wr.cell? (y'.add q) = some (.slice (qa q) (ql q) (qc q)) := (HB.out.cell (cell_lt hcb)).trans hcb
          have HC0 : Hid (w.cell? (y.add q) = some (.slice (pa q) (pl q) (pc q))) := hc
          have HC1 : Hid (w.cell? (y'.add q) = some (.slice (qa q) (ql q) (qc q))) := hcb
          have hb1 : (y.add q).block < w.heap.size := cell_lt hc
          have hb2 : (y'.add q).block < w.heap.size := cell_lt hcb
          have hlti : (q : Int) < (lp : Int) := by omega
          have hGl := HG.out.lt
          have g0 := HG.out.cell (i := q * 2) (by omega)
          have g1 := HG.out.cell (i := q * 2 + 1) (by omega)
          have e0 := HG.out.frozen (q * 2)
          have e1 := HG.out.frozen (q * 2 + 1)
          have HBD : Hid (Below w.heap.size w wr.drew) := HB.out.drew
          have HBW : Hid (Below wr.heap.size wr wr.drew) := (Below.refl _ _).drew
          have HGW : Hid (∀ w', Below wr.heap.size wr w' → w'.cell? ⟨Pb, q * 2, none⟩ = some (G (q * 2)) ∧ w'.cell? ⟨Pb, q * 2 + 1, none⟩ = some (G (q * 2 + 1)) ∧ w'.frozen? ⟨Pb, q * 2, none⟩ = false ∧ w'.frozen? ⟨Pb, q * 2 + 1, none⟩ = false) := fun w' hb => by
            have := rowIs_below HG.out hb
            exact ⟨this.cell (by omega), this.cell (by omega), this.frozen _, this.frozen _⟩
          clear hc hcb g0 g1 e0 e1
          go_wp2
          go_region_held3 (fun w' => w'.cell? (y.add q) = some (.slice (pa q) (pl q) (pc q)) ∧ w'.cell? (y'.add q) = some (.slice (qa q) (ql q) (qc q)))
            (refine ⟨?_, ?_⟩ <;> first | (rw [World.cell?_drew]; assumption) | exact keepB (by assumption) (by assumption) | exact keepSet (keepSet (keepB (by assumption) (by assumption)) (by show _ ≠ Pb; omega)) (by show _ ≠ Pb; omega))
            (first
              | (with_reducible refine Calls.mono (HNA.out q _ hlt (Hid.out (by assumption))) ?_
                 rintro e wa ⟨rfl, hrA, hbA⟩
                 have HBA : Hid (Below w.heap.size w wa) := Below.trans (Hid.out (by assumption)) (hbA.mono (Below.size (Hid.out (by assumption))))
                 have HBWA : Hid (Below wr.heap.size wr wa) := Below.trans (Hid.out (by assumption)) (hbA.mono (Below.size (Hid.out (by assumption))))
                 obtain ⟨x1, x2, x3, x4⟩ := HGW.out wa HBWA.out)
              | (with_reducible refine Calls.mono (HNO.out q _ hlt (Hid.out (by assumption))) ?_
                 rintro e wb ⟨rfl, hrB, hbB⟩
                 have HBB : Hid (Below w.heap.size w wb) := Below.trans (Hid.out (by assumption)) (hbB.mono (Below.size (Hid.out (by assumption))))
                 have HBWB : Hid (Below wr.heap.size wr wb) := Below.trans (Hid.out (by assumption)) (hbB.mono (Below.size (Hid.out (by assumption))))
                 obtain ⟨y1, y2, y3, y4⟩ := HGW.out wb HBWB.out))
          obtain ⟨G', r1, r2, r3, r4⟩ := pref_step HG.out HGJ.out HR.out HB.out HBWB.out (rowIs_below hrA hbB) hrB (by show Pb < wr.heap.size; exact hGl) (by have := HBWA.out.size; omega) hPl
          have R1 : Hid _ := r1
          have R2 : Hid _ := r2
          have R3 : Hid _ := r3
          have R4 : Hid _ := r4
          clear r1 r2 r3 r4 hrA hbA hrB hbB x1 x2 x3 x4 y1 y2 y3 y4
          go_wp2
          refine ⟨⟨q + 1, by omega, by go_num, G', R1, R2, R3, R4⟩, ?_⟩
          simp [intOf]; omega
        · obtain rfl : lp = q := by omega
          have HOR : Hid (∀ nm w', Below w.heap.size w w' → Calls Tryf.prog 22 #[.string nm, .slice a0 n c0, .slice a1 lm c1, .slice a2 la c2, .slice a3 la c3] w' fun e w'' => ∃ v, e = .returned v ∧ OrderAt w'' v nm lm la (pick s zm) (pick s za) (pick s zb) ∧ Below w'.heap.size w' w'') := fun nm w' hb => orderOf_any nm a0 a1 a2 a3 n c0 lm c1 la c2 c3 s zm za zb w' (by omega) (by omega) (by omega) (H0.out.below hb) (H1.out.below hb) (H2.out.below hb) (H3.out.below hb) im ia ib
          clear im ia ib
          go_wp2_with fail
          refine Calls.mono (HOR.out _ wr HB.out) ?_
          rintro e w1 ⟨v1, rfl, ⟨m0, p0, rfl, hm0, hp0⟩, hb1⟩
          have HB1 : Hid (Below w.heap.size w w1) := HB.out.trans (hb1.mono HB.out.size)
          have HM0 : Hid (w1.rowIs m0 9 lm (strV (pick s zm))) := hm0
          have HP0 : Hid (w1.rowIs p0 72 (la * 2) (pairV (pick s za) (pick s zb))) := hp0
          have HW1 : Hid (Below wr.heap.size wr w1) := hb1
          clear hm0 hp0 hb1
          go_wp2_with fail
          refine Calls.mono (HOR.out _ w1 HB1.out) ?_
          rintro e w2 ⟨v2, rfl, ⟨m1, p1, rfl, hm1, hp1⟩, hb2⟩
          have HB2 : Hid (Below w.heap.size w w2) := HB1.out.trans (hb2.mono HB1.out.size)
          have HM1 : Hid (w2.rowIs m1 9 lm (strV (pick s zm))) := hm1
          have HP1 : Hid (w2.rowIs p1 72 (la * 2) (pairV (pick s za) (pick s zb))) := hp1
          have HW2 : Hid (Below w1.heap.size w1 w2) := hb2
          clear hm1 hp1 hb2
          go_wp2
          go_ret
          have t1 := HW1.out.trans (HW2.out.mono HW1.out.size)
          have al : ∀ o1 o2, Below w2.heap.size w2 ((w2.alloc o1).alloc o2) := fun o1 o2 => ((Below.refl _ _).alloc (Nat.le_refl _) _).alloc (by simp) _
          refine ⟨_, w.heap.size, w2.heap.size, Pb, m0, p0, m1, p1, F, G, rfl, ⟨⟨?_, rowIs_below (rowIs_below HR.out t1) (al _ _), HF.out, ?_, rowIs_below (rowIs_below HM0.out HW2.out) (al _ _), rowIs_below (rowIs_below HP0.out HW2.out) (al _ _), rowIs_below HM1.out (al _ _), rowIs_below HP1.out (al _ _), rowIs_below (rowIs_below HG.out t1) (al _ _), (HGJ.out.below t1).below (al _ _)⟩, HF1.out⟩, HB2.out.trans ((al _ _).mono HB2.out.size)⟩
          · exact heap_alloc2_new _ _ _
          · exact heap_alloc2_old _ _ _
end Go.Proofs.Qxb6605818aFmt
