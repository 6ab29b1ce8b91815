import Derived.Test.Qxb6605818aFmtLaw0
import Derived.Test.Qxb6605818aFmtPm2
import Derived.Test.Qxb6605818aFmtZz0
import Derived.Test.Qxb6605818aFmtDef2
import Derived.Test.Qxb6605818aFmtBytes
import Derived.Deep.RegionHeld3
import Derived.BigQuiet
namespace Go.Proofs.Qxb6605818aFmt
open Go.RowKit Go.Maps Go.Stop
set_option linter.unusedVariables false

def XL (n lm la : Nat) (s : Nat → ByteArray) (zm za zb : Nat → Int) : Nat → List Nat := fun i => (if i < rank (fun i => inInt zm i lm) n then bs (ixf (pick s zm) lm s n) (pick s za) (pick s zb) i la else []) ++ bs (ixf (pick s zm) lm s n) (pick s za) (pick s zb) i la

/-- 'm[[2]int{i, j}] += d', with both footprints. -/
theorem MapP.inc2 {w : World} {b n : Nat} {c : Nat × Nat → Nat} {hs : Nat × Nat → Bool} (h : MapP w b n c hs) (hn : n ≤ 1000000) (i j : Nat) (hi : i ≤ 1000000) (hj : j ≤ 1000000) (d : Nat) :
    ∃ (st : Nat) (w1 w2 : World), (Instr.lookup 49 (.map (some b)) (.agg #[.int .i64 (i : Nat), .int .i64 (j : Nat)]) false).run Tryf.prog w = .ok (.int .i64 (c (i, j) : Nat)) w ∧
      (Instr.mapEntry 49 (.map (some b)) (.agg #[.int .i64 (i : Nat), .int .i64 (j : Nat)])).run Tryf.prog w = .ok (.tuple #[.int .i64 (c (i, j) : Nat), .int .i64 (st : Nat)]) w1 ∧
      (Instr.lookup 49 (.map (some b)) (.agg #[.int .i64 (i : Nat), .int .i64 (j : Nat)]) false).run Tryf.prog w1 = .ok (.int .i64 (c (i, j) : Nat)) w1 ∧
      (Instr.entryStore 49 (.map (some b)) (.int .i64 (st : Nat)) (.int .i64 ((c (i, j) + d : Nat)))).run Tryf.prog w1 = .ok () w2 ∧
      (∃ hs', MapP w2 b (n + 1) (upd c (i, j) (c (i, j) + d)) hs') ∧ Foot (fun k => k = b) w w1 ∧ Foot (fun k => k = b) w w2 := by
  have hd : domp (i, j) := ⟨hi, hj⟩
  obtain ⟨st, w1, e1, ⟨hs1, e2⟩, e3, e4⟩ := h.entry law50 kp_inj u49 zero3 (by unfold maxLen; omega) (i, j) hd
  obtain ⟨w2, g1, ⟨hs2, g2⟩, g3⟩ := e4 w1 (.int .i64 ((c (i, j) + d : Nat))) rfl
  refine ⟨st, w1, w2, h.look keyed50 u49 (zero3 _) (i, j) hd, e1, e2.look keyed50 u49 (zero3 _) (i, j) hd, g1, ⟨hs2, ?_⟩, e3, e3.trans g3 (fun _ _ e => e)⟩
  rw [cntV_upd] at g2
  exact g2
theorem below_drewN {B : Nat} {a b : World} (h : Below B a b) (m : Nat) : Below B a (b.drewN m) := by
  induction m with
  | zero => exact h
  | succ m ih => exact ih.drew
theorem named_at {n : Nat} {b : Nat → Bool} {z : Int} (h : named n b z = true) : ∃ j : Nat, z = j ∧ j < n ∧ b j = true := by
  unfold named at h
  rw [Bool.and_eq_true, decide_eq_true_eq] at h
  exact ⟨z.toNat, by omega, by omega, h.2⟩
theorem named_in {n : Nat} {b : Nat → Bool} {z : Int} (h : named n b z = true) : 0 ≤ z ∧ z < n := by
  unfold named at h
  rw [Bool.and_eq_true, decide_eq_true_eq] at h
  exact h.1

theorem ix_named {s : Nat → ByteArray} {n : Nat} {zm : Nat → Int} {lm : Nat} (hd : Distinct s n) (hm : allIn n zm lm) {z : Int} (h : named n (fun i => inInt zm i lm) z = true) : ixf (pick s zm) lm s n (s z.toNat) = rank (fun i => inInt zm i lm) z.toNat ∧ rank (fun i => inInt zm i lm) z.toNat < rank (fun i => inInt zm i lm) n := by
  obtain ⟨j, rfl, hj, hb⟩ := named_at h
  rw [Int.toNat_natCast]
  exact ⟨ixf_at hd (fun j hj => inStr_pick hd hm hj) n (Nat.le_refl _) j hj hb, rank_lt _ hj hb⟩
theorem XL_facts {s : Nat → ByteArray} {n : Nat} {zm : Nat → Int} {lm : Nat} {za zb : Nat → Int} {la lp : Nat} {zp zo : Nat → Nat → Int} {pl ql : Nat → Nat} {N : Nat} (hP : Premise s n zm lm za zb la la lp lp zp zo pl ql) (hN : rank (fun i => inInt zm i lm) n = N) :
    (∀ i, i < N → ∀ j ∈ XL n lm la s zm za zb i, j < N) ∧ tot (XL n lm la s zm za zb) N = 2 * la ∧ tot (fun j => yf (XL n lm la s zm za zb) j N) N = 2 * la ∧
    ∀ i, i < N → ∀ j ∈ XL n lm la s zm za zb i, (XL n lm la s zm za zb i).count j = wnt (fun l => rank (fun i => inInt zm i lm) (za l).toNat) (fun l => rank (fun i => inInt zm i lm) (zb l).toNat) la (i, j) ∧ (yf (XL n lm la s zm za zb) j N).count i = wnt (fun l => rank (fun i => inInt zm i lm) (za l).toNat) (fun l => rank (fun i => inInt zm i lm) (zb l).toNat) la (i, j) := by
  have hix : ∀ l, l < la → (rank (fun i => inInt zm i lm) (za l).toNat = ixf (pick s zm) lm s n (pick s za l) ∧ rank (fun i => inInt zm i lm) (zb l).toNat = ixf (pick s zm) lm s n (pick s zb l)) ∧ ixf (pick s zm) lm s n (pick s za l) < N ∧ ixf (pick s zm) lm s n (pick s zb l) < N := fun l hl => by
    obtain ⟨h1, h2⟩ := ix_named hP.dist hP.mIn (hP.ab l hl).1
    obtain ⟨h3, h4⟩ := ix_named hP.dist hP.mIn (hP.ab l hl).2
    rw [hN] at h2 h4
    unfold pick at *
    exact ⟨⟨h1.symm, h3.symm⟩, by rw [h1]; exact h2, by rw [h3]; exact h4⟩
  have hXi : ∀ i, i < N → XL n lm la s zm za zb i = bs (ixf (pick s zm) lm s n) (pick s za) (pick s zb) i la ++ bs (ixf (pick s zm) lm s n) (pick s za) (pick s zb) i la := fun i hi => by
    unfold XL
    rw [if_pos (by rw [hN]; exact hi)]
  have h1 : ∀ i, i < N → ∀ j ∈ XL n lm la s zm za zb i, j < N := fun i hi j hj => by
    rw [hXi i hi] at hj
    have hj : j ∈ bs (ixf (pick s zm) lm s n) (pick s za) (pick s zb) i la := by
      rcases List.mem_append.1 hj with h | h <;> exact h
    obtain ⟨l, hl, rfl⟩ := bs_mem _ _ _ _ _ _ hj
    exact (hix l hl).2.2
  have h2 : tot (XL n lm la s zm za zb) N = 2 * la := by
    rw [tot_congr (Z := fun i => bs (ixf (pick s zm) lm s n) (pick s za) (pick s zb) i la ++ bs (ixf (pick s zm) lm s n) (pick s za) (pick s zb) i la) (fun i hi => by rw [hXi i hi]), tot_append, tot_bs _ _ _ _ _ (fun l hl => (hix l hl).2.1)]
    omega
  have hw : wnt (fun l => rank (fun i => inInt zm i lm) (za l).toNat) (fun l => rank (fun i => inInt zm i lm) (zb l).toNat) la = wnt (fun l => ixf (pick s zm) lm s n (pick s za l)) (fun l => ixf (pick s zm) lm s n (pick s zb l)) la := wnt_congr (fun l hl => (hix l hl).1)
  have hcnt : ∀ i, i < N → ∀ j, (XL n lm la s zm za zb i).count j = wnt (fun l => rank (fun i => inInt zm i lm) (za l).toNat) (fun l => rank (fun i => inInt zm i lm) (zb l).toNat) la (i, j) := fun i hi j => by
    rw [hXi i hi, hw, wnt_bs, List.count_append]
    omega
  refine ⟨h1, h2, by rw [tot_yf _ _ _ h1, h2], fun i hi j hj => ⟨hcnt i hi j, ?_⟩⟩
  rw [yf_count, if_pos hi]
  exact hcnt i hi j
/-- What is allowed, at the place of a member. -/
theorem alw_at {s : Nat → ByteArray} {n : Nat} {zm : Nat → Int} {lm : Nat} {za zb : Nat → Int} {la lp : Nat} {zp zo : Nat → Nat → Int} {pl ql : Nat → Nat} (hP : Premise s n zm lm za zb la la lp lp zp zo pl ql) {q k : Nat} (hq : q < lp) (hk : k < n) (hb : inInt zm k lm = true) :
    alw s pl ql zp zo (fun i => (idl (pick s zm) lm s n).getD i ⟨#[]⟩) q (rank (fun i => inInt zm i lm) k) = (inInt (zp q) k (pl q) && inInt (zo q) k (ql q)) := by
  have h := idl_at (M := pick s zm) (lm := lm) (s := s) (b := fun i => inInt zm i lm) (fun j hj => inStr_pick hP.dist hP.mIn hj) n (Nat.le_refl _) k hk hb
  unfold alw
  simp only [List.getD, h, Option.getD_some]
  rw [inStr_pick hP.dist (hP.po q hq).1 hk, inStr_pick hP.dist (hP.po q hq).2 hk]

/-- What 'ZZtarget' promises of a definition in memory. -/
def GivesZ (w : World) (n lm la lp : Nat) (s : Nat → ByteArray) (zm za zb : Nat → Int) (pl ql : Nat → Nat) (zp zo : Nat → Nat → Int) : Prop :=
  ∀ X d S O P m0 p0 m1 p1 F G, Below w.heap.size w X → DefAt X d S O P m0 p0 m1 p1 n lm la lp F G s (pick s zm) (pick s za) (pick s zb) pl ql zp zo → (∀ j, j < n → ∃ y z a b l c l' c', F (j * 5 + 1) = .string y ∧ F (j * 5 + 2) = .int .i64 z ∧ F (j * 5 + 3) = .slice a l c ∧ F (j * 5 + 4) = .slice b l' c') →
    Calls Tryf.prog 14 #[.pointer (some ⟨d, 0, none⟩), .int .i64 0, ordV litTo m1 p1 lm la] X fun e w' => ∃ v G1 G2 Mb av ac vs1 vs2 als, e = .returned (.tuple #[.slice (some ⟨G1, 0, none⟩) (rank (fun i => inInt zm i lm) n) (rank (fun i => inInt zm i lm) n), .slice (some ⟨G2, 0, none⟩) (rank (fun i => inInt zm i lm) n) (rank (fun i => inInt zm i lm) n), .slice (some ⟨Mb, 0, none⟩) (rank (fun i => inInt zm i lm) n) (rank (fun i => inInt zm i lm) n), .slice av lp ac, .string litTo]) ∧ TgtR w' v litTo m1 p1 lm la (rank (fun i => inInt zm i lm) n) lp (XL n lm la s zm za zb) (fun j => yf (XL n lm la s zm za zb) j (rank (fun i => inInt zm i lm) n)) (alw s pl ql zp zo (fun i => (idl (pick s zm) lm s n).getD i ⟨#[]⟩)) G1 G2 Mb av ac vs1 vs2 als ∧ Below X.heap.size X w'

set_option maxRecDepth 1000000 in
set_option maxHeartbeats 40000000 in
theorem law_core (a0 a1 a2 a3 a4 a5 : Option Addr) (n c0 lm c1 la c2 lb c3 lp c4 lo c5 : Nat) (s : Nat → ByteArray) (zm za zb : Nat → Int) (pa qa : Nat → Option Addr) (pl pc ql qc : Nat → Nat) (zp zo : Nat → Nat → Int) (w : World)
    (h0 : Sl w a0 n (strV s)) (h1 : Sl w a1 lm (intV zm)) (h2 : Sl w a2 la (intV za)) (h3 : Sl w a3 lb (intV zb)) (h4 : Rows2 w a4 lp pa pl pc zp) (h5 : Rows2 w a5 lo qa ql qc zo)
    (i0 : a0 = none → n = 0 ∧ c0 = 0) (i1 : a1 = none → lm = 0 ∧ c1 = 0) (i2 : a2 = none → la = 0 ∧ c2 = 0) (i3 : a3 = none → lb = 0 ∧ c3 = 0) (i4 : a4 = none → lp = 0 ∧ c4 = 0) (i5 : a5 = none → lo = 0 ∧ c5 = 0)
    (hZ : Fits s pl ql n lp lo → Premise s n zm lm za zb la lb lp lo zp zo pl ql → n ≤ 4096 → lm ≤ 4096 → la ≤ 4096 → lp ≤ 4096 → GivesZ w n lm la lp s zm za zb pl ql zp zo) :
    Calls Tryf.prog 3 #[.slice a0 n c0, .slice a1 lm c1, .slice a2 la c2, .slice a3 lb c3, .slice a4 lp c4, .slice a5 lo c5] w fun e w' => e = .returned (.bool true) ∧ Below w.heap.size w w' := by
  have H0 : Hid (Sl w a0 n (strV s)) := h0
  have H1 : Hid (Sl w a1 lm (intV zm)) := h1
  have H2 : Hid (Sl w a2 la (intV za)) := h2
  have H3 : Hid (Sl w a3 lb (intV zb)) := h3
  have H4 : Hid (Rows2 w a4 lp pa pl pc zp) := h4
  have H5 : Hid (Rows2 w a5 lo qa ql qc zo) := h5
  have HBR : Hid (Below w.heap.size w w) := Below.refl _ _
  have C4 := zzBytes_any a0 a1 a2 a3 a4 a5 n c0 lm c1 la c2 lb c3 lp c4 lo c5 s pa qa pl pc ql qc w h0 h4.out h5.out
  have HC4 : Hid (Calls Tryf.prog 4 #[.slice a0 n c0, .slice a1 lm c1, .slice a2 la c2, .slice a3 lb c3, .slice a4 lp c4, .slice a5 lo c5] w fun e w' => BoolIf e (Fits s pl ql n lp lo) ∧ w' = w) := C4
  clear h0 h1 h2 h3 h4 h5 C4
  go_enter Tryf.func3, Tryf.ntmps3
  go_wp2_with fail
  refine Calls.mono HC4.out ?_
  rintro e wx ⟨⟨b, rfl, hfit⟩, hwx⟩
  have hwx := hwx.symm
  subst hwx
  clear HC4
  cases b with
  | false =>
    go_wp2
    go_ret
    exact ⟨rfl, HBR.out⟩
  | true =>
    have hF := hfit rfl
    have HF : Hid (Fits s pl ql n lp lo) := hF
    clear hfit hF
    by_cases b0 : (n : Int) ≤ 4096
    case neg =>
      have b0' : (n : Int) > 4096 := by omega
      go_wp2
      go_ret
      exact ⟨rfl, HBR.out⟩
    case pos =>
    by_cases b1 : (lm : Int) ≤ 4096
    case neg =>
      have b1' : (lm : Int) > 4096 := by omega
      go_wp2
      go_ret
      exact ⟨rfl, HBR.out⟩
    case pos =>
    by_cases b2 : (la : Int) ≤ 4096
    case neg =>
      have b2' : (la : Int) > 4096 := by omega
      go_wp2
      go_ret
      exact ⟨rfl, HBR.out⟩
    case pos =>
    by_cases b3 : (lb : Int) ≤ 4096
    case neg =>
      have b3' : (lb : Int) > 4096 := by omega
      go_wp2
      go_ret
      exact ⟨rfl, HBR.out⟩
    case pos =>
    by_cases b4 : (lp : Int) ≤ 4096
    case neg =>
      have b4' : (lp : Int) > 4096 := by omega
      go_wp2
      go_ret
      exact ⟨rfl, HBR.out⟩
    case pos =>
    by_cases b5 : (lo : Int) ≤ 4096
    case neg =>
      have b5' : (lo : Int) > 4096 := by omega
      go_wp2
      go_ret
      exact ⟨rfl, HBR.out⟩
    case pos =>
    have N0 : Hid (n ≤ 4096) := by show _ ≤ _; omega
    have N1 : Hid (lm ≤ 4096) := by show _ ≤ _; omega
    have N2 : Hid (la ≤ 4096) := by show _ ≤ _; omega
    have N3 : Hid (lb ≤ 4096) := by show _ ≤ _; omega
    have N4 : Hid (lp ≤ 4096) := by show _ ≤ _; omega
    have N5 : Hid (lo ≤ 4096) := by show _ ≤ _; omega
    have HC5 : Hid (Calls Tryf.prog 5 #[.slice a0 n c0, .slice a1 lm c1, .slice a2 la c2, .slice a3 lb c3, .slice a1 lm c1, .slice a2 la c2, .slice a3 lb c3, .slice a4 lp c4, .slice a5 lo c5] w fun e w' => (∃ z, e = .returned (.int .i64 z)) ∧ w' = w) := targetBytes_any a0 a1 a2 a3 a1 a2 a3 a4 a5 n c0 lm c1 la c2 lb c3 lm c1 la c2 lb c3 lp c4 lo c5 s pa qa pl pc ql qc w (by have := N0.out; omega) (by have := N4.out; omega) (by have := N5.out; omega) H0.out H4.out.out H5.out.out
    have HC6 : Hid (Calls Tryf.prog 6 #[.slice a0 n c0, .slice a1 lm c1, .slice a1 lm c1, .slice a4 lp c4, .slice a5 lo c5] w fun e w' => (∃ z, e = .returned (.int .i64 z)) ∧ w' = w) := targetWork_any a0 a1 a1 a4 a5 n c0 lm c1 lm c1 lp c4 lo c5 pa qa pl pc ql qc w (by have := N4.out; omega) (by have := N5.out; omega) H4.out.out H5.out.out
    have HC7 : Hid (Calls Tryf.prog 7 #[.slice a0 n c0, .slice a1 lm c1, .slice a2 la c2, .slice a3 lb c3, .slice a1 lm c1, .slice a2 la c2, .slice a3 lb c3, .slice a4 lp c4, .slice a5 lo c5] w fun e w' => BoolIf e (Premise s n zm lm za zb la lb lp lo zp zo pl ql) ∧ Below w.heap.size w w') := targetPremise_any a0 a1 a2 a3 a4 a5 n c0 lm c1 la c2 lb c3 lp c4 lo c5 s zm za zb pa qa pl pc ql qc zp zo w N0.out N1.out N2.out N3.out N4.out N5.out (fun i hi => by have := HF.out.1 i hi; unfold strKey maxLen; omega) (fun i hi => by have := HF.out.2.1 i hi; omega) (fun i hi => by have := HF.out.2.2 i hi; omega) H0.out H1.out H2.out H3.out H4.out H5.out
    go_wp2_with fail
    refine Calls.mono HC5.out ?_
    rintro e wx ⟨⟨z5, rfl⟩, hwx⟩
    have hwx := hwx.symm
    subst hwx
    clear HC5
    by_cases hz5 : z5 ≤ 1048576
    case neg =>
      have hz5' : z5 > 1048576 := by omega
      go_wp2
      go_ret
      exact ⟨rfl, HBR.out⟩
    case pos =>
    go_wp2_with fail
    refine Calls.mono HC6.out ?_
    rintro e wx ⟨⟨z6, rfl⟩, hwx⟩
    have hwx := hwx.symm
    subst hwx
    clear HC6
    by_cases hz6 : z6 ≤ 16777216
    case neg =>
      have hz6' : z6 > 16777216 := by omega
      go_wp2
      go_ret
      exact ⟨rfl, HBR.out⟩
    case pos =>
    go_wp2_with fail
    refine Calls.mono HC7.out ?_
    rintro e w1 ⟨⟨bp, rfl, hprem⟩, hb1⟩
    clear HC7
    cases bp with
    | false =>
      go_wp2
      go_ret
      exact ⟨rfl, hb1⟩
    | true =>
      have hP := hprem rfl
      clear hprem
      obtain rfl := hP.lab
      obtain rfl := hP.lpo
      have HP : Hid (Premise s n zm lm za zb la la lp lp zp zo pl ql) := hP
      have HB1 : Hid (Below w.heap.size w w1) := hb1
      clear hP hb1 hz5 hz6
      have HC8 : Hid (Calls Tryf.prog 8 #[.slice a0 n c0] w1 fun e w' => Cl a0 n (strV s) w1 e w') := cloneStrings_any a0 n c0 s w1 (by have := N0.out; omega) i0 (H0.out.below HB1.out)
      go_wp2_with fail
      refine Calls.mono HC8.out ?_
      rintro e w2 ⟨d0, rfl, hs0, _, hb2⟩
      have HB2 : Hid (Below w.heap.size w w2) := HB1.out.trans (hb2.mono HB1.out.size)
      have S0 : Hid (Sl w2 d0 n (strV s)) := hs0
      have HC9 : Hid (Calls Tryf.prog 9 #[.slice a1 lm c1] w2 fun e w' => Cl a1 lm (intV zm) w2 e w') := cloneInts_any a1 lm c1 zm w2 (by have := N1.out; omega) i1 (H1.out.below HB2.out)
      clear hs0 hb2 HC8
      go_wp2_with fail
      with_reducible refine Calls.mono HC9.out ?_
      rintro e w3 ⟨d1, rfl, hs1, _, hb3⟩
      have HB3 : Hid (Below w.heap.size w w3) := HB2.out.trans (hb3.mono HB2.out.size)
      have S1 : Hid (Sl w3 d1 lm (intV zm) ∧ Below w2.heap.size w2 w3) := ⟨hs1, hb3⟩
      clear HC9
      have HC9 : Hid (Calls Tryf.prog 9 #[.slice a2 la c2] w3 fun e w' => Cl a2 la (intV za) w3 e w') := cloneInts_any a2 la c2 za w3 (by have := N2.out; omega) i2 (H2.out.below HB3.out)
      clear hs1 hb3
      go_wp2_with fail
      with_reducible refine Calls.mono HC9.out ?_
      rintro e w4 ⟨d2, rfl, hs2, _, hb4⟩
      have HB4 : Hid (Below w.heap.size w w4) := HB3.out.trans (hb4.mono HB3.out.size)
      have S2 : Hid (Sl w4 d2 la (intV za) ∧ Below w3.heap.size w3 w4) := ⟨hs2, hb4⟩
      clear HC9
      have HC9 : Hid (Calls Tryf.prog 9 #[.slice a3 la c3] w4 fun e w' => Cl a3 la (intV zb) w4 e w') := cloneInts_any a3 la c3 zb w4 (by have := N2.out; omega) i3 (H3.out.below HB4.out)
      clear hs2 hb4
      go_wp2_with fail
      with_reducible refine Calls.mono HC9.out ?_
      rintro e w5 ⟨d3, rfl, hs3, _, hb5⟩
      have HB5 : Hid (Below w.heap.size w w5) := HB4.out.trans (hb5.mono HB4.out.size)
      have S3 : Hid (Sl w5 d3 la (intV zb) ∧ Below w4.heap.size w4 w5) := ⟨hs3, hb5⟩
      clear HC9
      have HC10 : Hid (Calls Tryf.prog 10 #[.slice a4 lp c4] w5 fun e w' => ∃ b pa', e = .returned (.slice b lp lp) ∧ Rows2 w' b lp pa' pl pl zp ∧ Below w5.heap.size w5 w') := cloneIntss_any a4 lp c4 pa pl pc zp w5 (by have := N4.out; omega) (fun i hi => by have := HF.out.2.1 i hi; omega) i4 (H4.out.below HB5.out)
      clear hs3 hb5
      go_wp2_with fail
      with_reducible refine Calls.mono HC10.out ?_
      rintro e w6 ⟨d4, pa', rfl, hs4, hb6⟩
      have HB6 : Hid (Below w.heap.size w w6) := HB5.out.trans (hb6.mono HB5.out.size)
      have S4 : Hid (Rows2 w6 d4 lp pa' pl pl zp ∧ Below w5.heap.size w5 w6) := ⟨hs4, hb6⟩
      clear HC10
      have HC10 : Hid (Calls Tryf.prog 10 #[.slice a5 lp c5] w6 fun e w' => ∃ b pa', e = .returned (.slice b lp lp) ∧ Rows2 w' b lp pa' ql ql zo ∧ Below w6.heap.size w6 w') := cloneIntss_any a5 lp c5 qa ql qc zo w6 (by have := N4.out; omega) (fun i hi => by have := HF.out.2.2 i hi; omega) i5 (H5.out.below HB6.out)
      clear hs4 hb6
      go_wp2_with fail
      with_reducible refine Calls.mono HC10.out ?_
      rintro e w7 ⟨d5, qa', rfl, hs5, hb7⟩
      have HB7 : Hid (Below w.heap.size w w7) := HB6.out.trans (hb7.mono HB6.out.size)
      have HS7 : Hid (∀ X, Below w7.heap.size w7 X → Sl X d0 n (strV s) ∧ Sl X d1 lm (intV zm) ∧ Sl X d2 la (intV za) ∧ Sl X d3 la (intV zb) ∧ Rows2 X d4 lp pa' pl pl zp ∧ Rows2 X d5 lp qa' ql ql zo) := fun X hX => by
        have t6 : Below w6.heap.size w6 X := hb7.trans (hX.mono hb7.size)
        have t5 : Below w5.heap.size w5 X := S4.out.2.trans (t6.mono S4.out.2.size)
        have t4 : Below w4.heap.size w4 X := S3.out.2.trans (t5.mono S3.out.2.size)
        have t3 : Below w3.heap.size w3 X := S2.out.2.trans (t4.mono S2.out.2.size)
        have t2 : Below w2.heap.size w2 X := S1.out.2.trans (t3.mono S1.out.2.size)
        exact ⟨S0.out.below t2, S1.out.1.below t3, S2.out.1.below t4, S3.out.1.below t5, S4.out.1.below t6, hs5.below hX⟩
      clear HC10 hs5 hb7 S0 S1 S2 S3 S4 HB1 HB2 HB3 HB4 HB5 HB6 H0 H1 H2 H3 H4 H5 HBR i0 i1 i2 i3 i4 i5
      have HC11 : Hid (Calls Tryf.prog 11 #[.int .i64 n, .slice d1 lm lm] w7 fun e w' => MaskOut w7.heap.size n zm lm e w' ∧ Below w7.heap.size w7 w') := memberMask_any n d1 lm lm zm w7 (by have := N0.out; omega) (by have := N1.out; omega) (HS7.out w7 (Below.refl _ _)).2.1
      go_wp2_with fail
      refine Calls.mono HC11.out ?_
      rintro e w8 ⟨hmo, hb8⟩
      rcases hmo with ⟨_, hno⟩ | ⟨rfl, hmr, _, _⟩
      case inl => exact absurd ⟨HP.out.mIn, HP.out.mDist⟩ hno
      case inr =>
      obtain ⟨bm, hbm⟩ : ∃ bm, w7.heap.size = bm := ⟨_, rfl⟩
      rw [hbm] at hmr ⊢
      have HMR : Hid (w8.rowIs bm 4 n (boolV fun i => inInt zm i lm)) := hmr
      have HB78 : Hid (Below w7.heap.size w7 w8) := hb8
      have HC12 : Hid (Calls Tryf.prog 12 #[.slice (some ⟨bm, 0, none⟩) n n] w8 fun e w' => e = .returned (.tuple #[.slice (some ⟨w8.heap.size, 0, none⟩) n n, .int .i64 (rank (fun i => inInt zm i lm) n : Nat)]) ∧ w'.rowIs w8.heap.size 3 n (intV (place fun i => inInt zm i lm)) ∧ Below w8.heap.size w8 w') := positions_any (some ⟨bm, 0, none⟩) n n (fun i => inInt zm i lm) w8 (by have := N0.out; omega) (Sl.row hmr)
      clear HC11 hmr hb8
      go_wp2_with fail
      refine Calls.mono HC12.out ?_
      rintro e w9 ⟨rfl, hpr, hb9⟩
      obtain ⟨bp, hbp⟩ : ∃ bp, w8.heap.size = bp := ⟨_, rfl⟩
      rw [hbp] at hpr ⊢
      obtain ⟨N, hN⟩ : ∃ N, rank (fun i => inInt zm i lm) n = N := ⟨_, rfl⟩
      have HN : Hid (rank (fun i => inInt zm i lm) n = N) := hN
      have hNn : N ≤ 4096 := by have h1 := rank_le (fun i => inInt zm i lm) n; have h2 := N0.out; omega
      rw [hN]
      have HPR : Hid (w9.rowIs bp 3 n (intV (place fun i => inInt zm i lm))) := hpr
      have HMR9 : Hid (w9.rowIs bm 4 n (boolV fun i => inInt zm i lm)) := rowIs_below HMR.out hb9
      have HB79 : Hid (Below w7.heap.size w7 w9) := HB78.out.trans (hb9.mono HB78.out.size)
      have HS9 := HS7.out w9 HB79.out
      have HC13 : Hid (Calls Tryf.prog 13 #[.slice d0 n n, .slice d1 lm lm, .slice d2 la la, .slice d3 la la, .slice d1 lm lm, .slice d2 la la, .slice d3 la la, .slice d4 lp lp, .slice d5 lp lp] w9 fun e w' => ∃ d S O P m0 p0 m1 p1 F G, e = .returned (.pointer (some ⟨d, 0, none⟩)) ∧ (DefAt w' d S O P m0 p0 m1 p1 n lm la lp F G s (pick s zm) (pick s za) (pick s zb) pl ql zp zo ∧ ∀ j, j < n → ∃ y z a b l c l' c', F (j * 5 + 1) = .string y ∧ F (j * 5 + 2) = .int .i64 z ∧ F (j * 5 + 3) = .slice a l c ∧ F (j * 5 + 4) = .slice b l' c') ∧ Below w9.heap.size w9 w') := twoOrderDef_any2 d0 d1 d2 d3 d4 d5 n n lm lm la la la lp lp lp s zm za zb pa' qa' pl pl ql ql zp zo w9 N0.out N1.out N2.out N4.out (fun i hi => by have := HF.out.2.1 i hi; omega) (fun i hi => by have := HF.out.2.2 i hi; omega) HS9.1 HS9.2.1 HS9.2.2.1 HS9.2.2.2.1 HS9.2.2.2.2.1 HS9.2.2.2.2.2 HP.out.mIn (fun i hi => named_in (HP.out.ab i hi).1) (fun i hi => named_in (HP.out.ab i hi).2) (fun q hq => (HP.out.po q hq).1) (fun q hq => (HP.out.po q hq).2)
      clear HC12 hpr hb9 HMR HB78 HS9 hN
      go_wp2_with fail
      refine Calls.mono HC13.out ?_
      rintro e w10 ⟨d, S, O, P, m0, p0, m1, p1, F, G, rfl, ⟨hD, hsh⟩, hb10⟩
      have HB910 : Hid (Below w9.heap.size w9 w10) := hb10
      have HB710 : Hid (Below w7.heap.size w7 w10) := HB79.out.trans (hb10.mono HB79.out.size)
      have HPR10 : Hid (w10.rowIs bp 3 n (intV (place fun i => inInt zm i lm))) := rowIs_below HPR.out hb10
      have HMR10 : Hid (w10.rowIs bm 4 n (boolV fun i => inInt zm i lm)) := rowIs_below HMR9.out hb10
      have HZC : Hid (Calls Tryf.prog 14 #[.pointer (some ⟨d, 0, none⟩), .int .i64 0, .agg #[.string litTo, .slice (some ⟨m1, 0, none⟩) lm lm, .slice (some ⟨p1, 0, none⟩) la la]] w10 fun e w' => ∃ v G1 G2 Mb av ac vs1 vs2 als, e = .returned (.tuple #[.slice (some ⟨G1, 0, none⟩) N N, .slice (some ⟨G2, 0, none⟩) N N, .slice (some ⟨Mb, 0, none⟩) N N, .slice av lp ac, .string litTo]) ∧ TgtR w' v litTo m1 p1 lm la N lp (XL n lm la s zm za zb) (fun j => yf (XL n lm la s zm za zb) j N) (alw s pl ql zp zo (fun i => (idl (pick s zm) lm s n).getD i ⟨#[]⟩)) G1 G2 Mb av ac vs1 vs2 als ∧ Below w10.heap.size w10 w') := by
        have h := hZ HF.out HP.out N0.out N1.out N2.out N4.out w10 d S O P m0 p0 m1 p1 F G (HB7.out.trans (HB710.out.mono HB7.out.size)) hD hsh
        rw [HN.out] at h
        exact h
      have o2 : w10.cell? ⟨d, 2, none⟩ = some (.slice (some ⟨O, 0, none⟩) 2 2) := by simp [World.cell?, hD.blk]
      have o3 : w10.cell? ⟨O, 3, none⟩ = some (.string litTo) ∧ w10.cell? ⟨O, 4, none⟩ = some (.slice (some ⟨m1, 0, none⟩) lm lm) ∧ w10.cell? ⟨O, 5, none⟩ = some (.slice (some ⟨p1, 0, none⟩) la la) := by simp [World.cell?, hD.ords]
      obtain ⟨o3, o4, o5⟩ := o3
      clear HC13 hD hsh hb10 hZ HPR HMR9 HB910
      go_wp2_with fail
      refine Calls.mono HZC.out ?_
      rintro e w11 ⟨v, G1, G2, Mb, av, ac, vs1, vs2, als, rfl, hT, hb11⟩
      have HT : Hid (TgtR w11 v litTo m1 p1 lm la N lp (XL n lm la s zm za zb) (fun j => yf (XL n lm la s zm za zb) j N) (alw s pl ql zp zo (fun i => (idl (pick s zm) lm s n).getD i ⟨#[]⟩)) G1 G2 Mb av ac vs1 vs2 als) := hT
      have HB11 : Hid (Below w.heap.size w w11) := HB7.out.trans ((HB710.out.trans (hb11.mono HB710.out.size)).mono HB7.out.size)
      have HB711 : Hid (Below w7.heap.size w7 w11) := HB710.out.trans (hb11.mono HB710.out.size)
      have HPR11 : Hid (w11.rowIs bp 3 n (intV (place fun i => inInt zm i lm))) := rowIs_below HPR10.out hb11
      have HMR11 : Hid (w11.rowIs bm 4 n (boolV fun i => inInt zm i lm)) := rowIs_below HMR10.out hb11
      clear HZC hT hb11 o2 o3 o4 o5 HPR10 HMR10 HB710 HB79 HB7
      have hNi : (N : Int) ≤ 4096 := by omega
      rw [show litTo = ⟨#[116, 111]⟩ from rfl]
      have u49 := Go.Proofs.Qxb6605818aFmt.u49
      have hmm := makeMap49
      obtain ⟨w12, hw12⟩ : ∃ w12, w11.alloc (.map #[] 0) = w12 := ⟨_, rfl⟩
      have HB12 : Hid (Below w11.heap.size w11 w12) := by rw [← hw12]; exact (Below.refl _ _).alloc (Nat.le_refl _) _
      obtain ⟨wb, hwb⟩ : ∃ wb, w11.heap.size = wb := ⟨_, rfl⟩
      have HM12 : Hid (MapP w12 wb 0 (fun _ => 0) (fun _ => false)) := by
        have h := MapK.made (kv := kp) (dom := domp) (KT := 50) (z := .int .i64 0) w11 kp_key
        rw [hwb] at h
        rw [← hw12]
        exact h
      have HWB : Hid (w11.heap.size = wb) := hwb
      go_wp2
      go_loopw [24] (fun i wr => ∃ k : Nat, k ≤ la ∧ i = .int .i64 k ∧ ∃ nn hs, Hid (MapP wr wb nn (wnt (fun l => rank (fun i => inInt zm i lm) (za l).toNat) (fun l => rank (fun i => inInt zm i lm) (zb l).toNat) k) hs) ∧ Hid (nn ≤ k) ∧ Hid (Below w11.heap.size w11 wr)) (fun i _ => la - (intOf i).toNat)
      case atStart => exact ⟨0, Nat.zero_le _, rfl, 0, _, HM12, Nat.le_refl _, HB12⟩
      case round =>
        clear HM12 HB12
        obtain ⟨k, hk, rfl, nn, hs, HM, HNN, HB⟩ := hrel
        by_cases hlt : k < la
        · skip
          have hlti : (k : Int) < (la : Int) := by omega
          obtain ⟨_, _, hs2, hs3, _, _⟩ := HS7.out wr (HB711.out.trans (HB.out.mono HB711.out.size))
          obtain ⟨y2, hy2, hc2⟩ := hs2 k hlt
          obtain ⟨y3, hy3, hc3⟩ := hs3 k hlt
          subst hy2
          subst hy3
          obtain ⟨ja, hja, hja1, hja2⟩ := named_at (HP.out.ab k hlt).1
          obtain ⟨jb, hjb, hjb1, hjb2⟩ := named_at (HP.out.ab k hlt).2
          obtain ⟨ra, hra⟩ : ∃ ra, rank (fun i => inInt zm i lm) ja = ra := ⟨_, rfl⟩
          obtain ⟨rb, hrb⟩ : ∃ rb, rank (fun i => inInt zm i lm) jb = rb := ⟨_, rfl⟩
          have hran : ra ≤ 4096 := by have h1 := rank_le (fun i => inInt zm i lm) ja; have h2 := N0.out; omega
          have hrbn : rb ≤ 4096 := by have h1 := rank_le (fun i => inInt zm i lm) jb; have h2 := N0.out; omega
          have HCL : Hid (∀ X, Below w11.heap.size w11 X → X.cell? (y2.add k) = some (.int .i64 (ja : Nat)) ∧ X.cell? (y3.add k) = some (.int .i64 (jb : Nat)) ∧ X.cell? ⟨bp, ja, none⟩ = some (.int .i64 (ra : Nat)) ∧ X.cell? ⟨bp, jb, none⟩ = some (.int .i64 (rb : Nat))) := fun X hX => by
            obtain ⟨_, _, hs2, hs3, _, _⟩ := HS7.out X (HB711.out.trans (hX.mono HB711.out.size))
            obtain ⟨y2', hy2, hc2⟩ := hs2 k hlt
            obtain ⟨y3', hy3, hc3⟩ := hs3 k hlt
            cases hy2
            cases hy3
            have r := HPR11.out.of_block (hX.block _ HPR11.out.lt)
            have ca := r.cell hja1
            have cb := r.cell hjb1
            simp only [intV, place, hja2, hjb2, if_true, hra, hrb] at ca cb
            simp only [intV, hja, hjb] at hc2 hc3
            exact ⟨hc2, hc3, ca, cb⟩
          have hMd : MapP wr.drew wb nn (wnt (fun l => rank (fun i => inInt zm i lm) (za l).toNat) (fun l => rank (fun i => inInt zm i lm) (zb l).toNat) k) hs := HM.out.kept (S := fun _ => False) (Foot.refl _ _).drew id
          obtain ⟨st, wa, wz, e1, e2, e3, e4, ⟨hs', e5⟩, e6, e7⟩ := MapP.inc2 hMd (by have h1 := HNN.out; have h2 := N2.out; omega) ra rb (by omega) (by omega) 2
          obtain ⟨C, hC⟩ : ∃ C, wnt (fun l => rank (fun i => inInt zm i lm) (za l).toNat) (fun l => rank (fun i => inInt zm i lm) (zb l).toNat) k (ra, rb) = C := ⟨_, rfl⟩
          have hCi : (C : Int) ≤ 8192 := by
            have h1 := wnt_le (fun l => rank (fun i => inInt zm i lm) (za l).toNat) (fun l => rank (fun i => inInt zm i lm) (zb l).toNat) k (ra, rb)
            have h2 := N2.out
            omega
          have HMz : Hid (MapP wz wb (nn + 1) (wnt (fun l => rank (fun i => inInt zm i lm) (za l).toNat) (fun l => rank (fun i => inInt zm i lm) (zb l).toNat) (k + 1)) hs') := by
            have : wnt (fun l => rank (fun i => inInt zm i lm) (za l).toNat) (fun l => rank (fun i => inInt zm i lm) (zb l).toNat) (k + 1) = upd (wnt (fun l => rank (fun i => inInt zm i lm) (za l).toNat) (fun l => rank (fun i => inInt zm i lm) (zb l).toNat) k) (ra, rb) (wnt (fun l => rank (fun i => inInt zm i lm) (za l).toNat) (fun l => rank (fun i => inInt zm i lm) (zb l).toNat) k (ra, rb) + 2) := by
              simp only [wnt, hja, hjb, Int.toNat_natCast, hra, hrb]
            rw [this]
            exact e5
          rw [hC] at e1 e2 e3 e4
          have e4 : (Instr.entryStore 49 (.map (some wb)) (.int .i64 (st : Nat)) (.int .i64 ((C : Int) + 2))).run Tryf.prog wa = .ok () wz := e4
          have hwr : IntKind.i64.wrap ((C : Int) + 2) = (C : Int) + 2 := by rw [IntKind.wrap_i64]; omega
          have D1 : Hid (Below w11.heap.size w11 wr.drew) := HB.out.drew
          have D2 : Hid (Below w11.heap.size w11 wa) := D1.out.trans (e6.below D1.out.size (fun k e => by have := HWB.out; omega))
          have D3 : Hid (Below w11.heap.size w11 wz) := D1.out.trans (e7.below D1.out.size (fun k e => by have := HWB.out; omega))
          clear hMd e5 e6 e7 hC hc2 hc3 hs2 hs3 hra hrb
          have hjai : (ja : Int) < (n : Int) := by omega
          have hjbi : (jb : Int) < (n : Int) := by omega
          go_wp2_with fail
          go_region_held3 (fun X => X.cell? (y2.add k) = some (.int .i64 (ja : Nat)) ∧ X.cell? (y3.add k) = some (.int .i64 (jb : Nat)) ∧ X.cell? ⟨bp, ja, none⟩ = some (.int .i64 (ra : Nat)) ∧ X.cell? ⟨bp, jb, none⟩ = some (.int .i64 (rb : Nat))) (exact HCL.out _ (Hid.out (by assumption))) (fail)
          all_goals
            go_wp2
            refine ⟨⟨k + 1, by omega, by go_num, nn + 1, _, HMz, Nat.succ_le_succ HNN.out, D3⟩, ?_⟩
            simp [intOf]; omega
        · obtain rfl : la = k := by omega
          obtain ⟨x1, x2, x3, x4⟩ := XL_facts HP.out HN.out
          have hTw := HT.out.below HB.out
          have HC15 : Hid (Calls Tryf.prog 15 #[.slice (some ⟨G1, 0, none⟩) N N, .slice (some ⟨G2, 0, none⟩) N N, .map (some wb), .int .i64 (2 * (la : Int))] wr fun e w' => e = .returned (.bool true) ∧ Below wr.heap.size wr w') := by
            have h := pairsMatch_any G1 G2 wb N (2 * la) nn vs1 vs2 (XL n lm la s zm za zb) (fun j => yf (XL n lm la s zm za zb) j N) (wnt (fun l => rank (fun i => inInt zm i lm) (za l).toNat) (fun l => rank (fun i => inInt zm i lm) (zb l).toNat) la) hs wr hNn (by have := N2.out; omega) x1 (fun i hi j hj => yf_mem _ _ _ _ hj) x2 x3 x4 (fun p => by have h1 := wnt_le (fun l => rank (fun i => inInt zm i lm) (za l).toNat) (fun l => rank (fun i => inInt zm i lm) (zb l).toNat) la p; have h2 := N2.out; omega) hTw.r1 hTw.n1 hTw.r2 hTw.n2 HM.out
            rw [show (((2 * la : Nat)) : Int) = 2 * (la : Int) by omega] at h
            exact h
          clear x1 x2 x3 x4 hTw
          go_wp2_with fail
          refine Calls.mono HC15.out ?_
          rintro e w13 ⟨rfl, hb13⟩
          have HB13 : Hid (Below w11.heap.size w11 w13) := HB.out.trans (hb13.mono HB.out.size)
          have HT13 : Hid (TgtR w13 v ⟨#[116, 111]⟩ m1 p1 lm la N lp (XL n lm la s zm za zb) (fun j => yf (XL n lm la s zm za zb) j N) (alw s pl ql zp zo (fun i => (idl (pick s zm) lm s n).getD i ⟨#[]⟩)) G1 G2 Mb av ac vs1 vs2 als) := HT.out.below HB13.out
          clear HC15 hb13 HM HNN HB HT
          go_wp2
          go_loopw [25] (fun i wr => ∃ k : Nat, k ≤ N ∧ i = .int .i64 k ∧ Hid (wr = w13)) (fun i _ => N - (intOf i).toNat)
          case atStart => exact ⟨0, Nat.zero_le _, rfl, (show w13 = w13 from rfl)⟩
          case round =>
            obtain ⟨k, hk, rfl, hwr⟩ := hrel
            obtain rfl : wr = w13 := hwr.out
            by_cases hlt : k < N
            · have hlti : (k : Int) < (N : Int) := by omega
              have cm := HT13.out.mu.cell hlt
              simp only [boolV] at cm
              go_wp2
              refine ⟨⟨k + 1, by omega, by go_num, (by first | exact (show True from trivial) | exact (show wr = wr from rfl))⟩, ?_⟩
              simp [intOf]; omega
            · obtain rfl : N = k := by omega
              obtain ⟨w13, rfl⟩ : ∃ w13, w13 = wr := ⟨_, rfl⟩
              have HPM : Hid (∀ X, Below w13.heap.size w13 X → X.rowIs bp 3 n (intV (place fun i => inInt zm i lm)) ∧ X.rowIs bm 4 n (boolV fun i => inInt zm i lm) ∧ (Rows2 X d4 lp pa' pl pl zp ∧ Rows2 X d5 lp qa' ql ql zo) ∧ TgtR X v ⟨#[116, 111]⟩ m1 p1 lm la N lp (XL n lm la s zm za zb) (fun j => yf (XL n lm la s zm za zb) j N) (alw s pl ql zp zo (fun i => (idl (pick s zm) lm s n).getD i ⟨#[]⟩)) G1 G2 Mb av ac vs1 vs2 als ∧ Below w.heap.size w X) := fun X hX => by
                have h1 : Below w11.heap.size w11 X := HB13.out.trans (hX.mono HB13.out.size)
                obtain ⟨_, _, _, _, s4, s5⟩ := HS7.out X (HB711.out.trans (h1.mono HB711.out.size))
                exact ⟨rowIs_below HPR11.out h1, rowIs_below HMR11.out h1, ⟨s4, s5⟩, HT13.out.below hX, HB11.out.trans (h1.mono HB11.out.size)⟩
              clear HPR11 HMR11 HS7 HT13 HB13 HB11 HB711 HWB
              go_wp2
              go_loopw [26] (fun i wr => ∃ k : Nat, k ≤ lp ∧ i = .int .i64 k ∧ Hid (Below w13.heap.size w13 wr)) (fun i _ => lp - (intOf i).toNat)
              case atStart => exact ⟨0, Nat.zero_le _, rfl, Below.refl _ _⟩
              case round =>
                obtain ⟨q, hq, rfl, HB⟩ := hrel
                by_cases hlt : q < lp
                · skip
                  have hlti : (q : Int) < (lp : Int) := by omega
                  have NN : Hid (rank (fun i => inInt zm i lm) n = N) := HN
                  obtain ⟨_, _, ⟨s4, s5⟩, _, _⟩ := HPM.out wr HB.out
                  obtain ⟨y4, hy4, hc4⟩ := s4.out q hlt
                  obtain ⟨y5, hy5, hc5⟩ := s5.out q hlt
                  subst hy4
                  subst hy5
                  simp only [sliV] at hc4 hc5
                  have HC16 : Hid (Calls Tryf.prog 16 #[.int .i64 n, .slice (pa' q) (pl q) (pl q)] wr fun e w' => e = .returned (.slice (some ⟨wr.heap.size, 0, none⟩) n n) ∧ w'.rowIs wr.heap.size 4 n (boolV fun i => inInt (zp q) i (pl q)) ∧ Below wr.heap.size wr w') := mark_any n (pa' q) (pl q) (pl q) (zp q) wr (by have := N0.out; omega) (by have := HF.out.2.1 q hlt; omega) (s4.inn q hlt) (HP.out.po q hlt).1
                  have HC16b : Hid (∀ X, Below wr.heap.size wr X → Calls Tryf.prog 16 #[.int .i64 n, .slice (qa' q) (ql q) (ql q)] X fun e w' => e = .returned (.slice (some ⟨X.heap.size, 0, none⟩) n n) ∧ w'.rowIs X.heap.size 4 n (boolV fun i => inInt (zo q) i (ql q)) ∧ Below X.heap.size X w') := fun X hX => mark_any n (qa' q) (ql q) (ql q) (zo q) X (by have := N0.out; omega) (by have := HF.out.2.2 q hlt; omega) ((s5.inn q hlt).below hX) (HP.out.po q hlt).2
                  have HC5 : Hid (wr.cell? (y5.add q) = some (.slice (qa' q) (ql q) (ql q))) := hc5
                  clear s4 s5 hc5
                  go_wp2_with fail
                  with_reducible refine Calls.mono HC16.out ?_
                  rintro e wm ⟨rfl, hrm, hbm1⟩
                  obtain ⟨bi, hbi⟩ : ∃ bi, wr.heap.size = bi := ⟨_, rfl⟩
                  rw [hbi] at hrm ⊢
                  have HRM : Hid (wm.rowIs bi 4 n (boolV fun i => inInt (zp q) i (pl q))) := hrm
                  have HBm : Hid (Below wr.heap.size wr wm) := hbm1
                  have hc5' : wm.cell? (y5.add q) = some (.slice (qa' q) (ql q) (ql q)) := (hbm1.cell (cell_lt HC5.out)).trans HC5.out
                  have HC16c := HC16b.out wm hbm1
                  have HC16d : Hid (Calls Tryf.prog 16 #[.int .i64 n, .slice (qa' q) (ql q) (ql q)] wm fun e w' => e = .returned (.slice (some ⟨wm.heap.size, 0, none⟩) n n) ∧ w'.rowIs wm.heap.size 4 n (boolV fun i => inInt (zo q) i (ql q)) ∧ Below wm.heap.size wm w') := HC16c
                  clear HC16 HC16b HC16c hrm hbm1 hc4 HC5
                  go_wp2_with fail
                  with_reducible refine Calls.mono HC16d.out ?_
                  rintro e wo ⟨rfl, hro, hbo⟩
                  obtain ⟨bo, hboo⟩ : ∃ bo, wm.heap.size = bo := ⟨_, rfl⟩
                  rw [hboo] at hro ⊢
                  have HRO : Hid (wo.rowIs bo 4 n (boolV fun i => inInt (zo q) i (ql q))) := hro
                  have HRM2 : Hid (wo.rowIs bi 4 n (boolV fun i => inInt (zp q) i (pl q))) := rowIs_below HRM.out hbo
                  have HBo : Hid (Below w13.heap.size w13 wo) := (HB.out.trans (HBm.out.mono HB.out.size)).trans (hbo.mono (Nat.le_trans HB.out.size HBm.out.size))
                  obtain ⟨rp, rm, _, hTo, _⟩ := HPM.out wo HBo.out
                  obtain ⟨ya, hya, hca⟩ := hTo.ra q hlt
                  obtain ⟨ba, hba, hrb⟩ := hTo.na q hlt
                  have hya' : av = some ya := hya
                  subst hya'
                  rw [hba] at hca
                  have HRA : Hid (wo.rowIs ba 4 N (boolV (alw s pl ql zp zo (fun i => (idl (pick s zm) lm s n).getD i ⟨#[]⟩) q))) := hrb
                  have HRP : Hid (wo.rowIs bp 3 n (intV (place fun i => inInt zm i lm))) := rp
                  have HRX : Hid (wo.rowIs bm 4 n (boolV fun i => inInt zm i lm)) := rm
                  clear HC16d hro hbo hTo rp rm hrb hya hc5' HRM
                  have eqs := eq_some32 ⟨ba, 0, none⟩ N N wo
                  go_wp2
                  go_loopw [29] (fun i wr => ∃ k : Nat, k ≤ n ∧ i = .int .i64 k ∧ Hid (Below wo.heap.size wo wr)) (fun i _ => n - (intOf i).toNat)
                  case atStart => exact ⟨0, Nat.zero_le _, rfl, Below.refl _ _⟩
                  case round =>
                    obtain ⟨k, hk, rfl, HW⟩ := hrel
                    by_cases hln : k < n
                    · skip
                      have hlni : (k : Int) < (n : Int) := by omega
                      have cx := (rowIs_below HRX.out HW.out).cell hln
                      have cp := (rowIs_below HRP.out HW.out).cell hln
                      have ci := (rowIs_below HRM2.out HW.out).cell hln
                      have co := (rowIs_below HRO.out HW.out).cell hln
                      simp only [boolV, intV] at cx cp ci co
                      have hcad : wr.cell? (ya.add q) = some (.slice (some ⟨ba, 0, none⟩) N N) := (HW.out.cell (cell_lt hca)).trans hca
                      cases hb : inInt zm k lm with
                      | false =>
                        rw [hb] at cx
                        have cxd : wr.cell? ⟨bm, k, none⟩ = some (.bool false) := cx
                        clear cp ci co cx hb
                        go_wp2_with fail
                        go_quiet (fail)
                        have HWe : ∀ N, Hid (Below wo.heap.size wo (wr.drewN N)) := fun N => below_drewN HW.out N
                        go_wp2
                        refine ⟨⟨k + 1, by omega, by go_num, HWe _⟩, ?_⟩
                        simp [intOf]; omega
                      | true =>
                        obtain ⟨r, hr⟩ : ∃ r, rank (fun i => inInt zm i lm) k = r := ⟨_, rfl⟩
                        have hrN : r < N := by rw [← hr, ← NN.out]; exact rank_lt _ hln hb
                        have hal := alw_at HP.out hlt hln hb
                        have ca := (rowIs_below HRA.out HW.out).cell hrN
                        rw [hr] at hal
                        simp only [boolV, hal] at ca
                        simp only [place, hb, if_true, hr] at cp
                        rw [hb] at cx
                        have hrNi : (r : Int) < (N : Int) := by omega
                        obtain ⟨Pv, hPv⟩ : ∃ Pv, inInt (zp q) k (pl q) = Pv := ⟨_, rfl⟩
                        obtain ⟨Ov, hOv⟩ : ∃ Ov, inInt (zo q) k (ql q) = Ov := ⟨_, rfl⟩
                        rw [hPv] at ci
                        rw [hOv] at co
                        rw [hPv, hOv] at ca
                        have cxd : wr.cell? ⟨bm, k, none⟩ = some (.bool true) := cx
                        have cpd : wr.cell? ⟨bp, k, none⟩ = some (.int .i64 (r : Nat)) := cp
                        clear hal hPv hOv hr hb cx cp
                        cases Pv with
                        | false =>
                          have cad : wr.cell? ⟨ba, r, none⟩ = some (.bool false) := ca
                          have cid : wr.cell? ⟨bi, k, none⟩ = some (.bool false) := ci
                          clear ca ci co
                          go_wp2_with fail
                          go_quiet (fail)
                          have HWe : ∀ N, Hid (Below wo.heap.size wo (wr.drewN N)) := fun N => below_drewN HW.out N
                          go_wp2
                          refine ⟨⟨k + 1, by omega, by go_num, HWe _⟩, ?_⟩
                          simp [intOf]; omega
                        | true =>
                          cases Ov with
                          | false =>
                            have cad : wr.cell? ⟨ba, r, none⟩ = some (.bool false) := ca
                            have cid : wr.cell? ⟨bi, k, none⟩ = some (.bool true) := ci
                            have cod : wr.cell? ⟨bo, k, none⟩ = some (.bool false) := co
                            clear ca ci co
                            go_wp2_with fail
                            go_quiet (fail)
                            have HWe : ∀ N, Hid (Below wo.heap.size wo (wr.drewN N)) := fun N => below_drewN HW.out N
                            go_wp2
                            refine ⟨⟨k + 1, by omega, by go_num, HWe _⟩, ?_⟩
                            simp [intOf]; omega
                          | true =>
                            have cad : wr.cell? ⟨ba, r, none⟩ = some (.bool true) := ca
                            have cid : wr.cell? ⟨bi, k, none⟩ = some (.bool true) := ci
                            have cod : wr.cell? ⟨bo, k, none⟩ = some (.bool true) := co
                            clear ca ci co
                            go_wp2_with fail
                            go_quiet (fail)
                            have HWe : ∀ N, Hid (Below wo.heap.size wo (wr.drewN N)) := fun N => below_drewN HW.out N
                            go_wp2
                            refine ⟨⟨k + 1, by omega, by go_num, HWe _⟩, ?_⟩
                            simp [intOf]; omega
                    · obtain rfl : n = k := by omega
                      have HBe : Hid (Below w13.heap.size w13 wr) := HBo.out.trans (HW.out.mono HBo.out.size)
                      go_wp2
                      refine ⟨⟨q + 1, by omega, by go_num, HBe⟩, ?_⟩
                      simp [intOf]; omega
                · obtain rfl : lp = q := by omega
                  have hE := (HPM.out wr HB.out).2.2.2.2
                  go_wp2
                  go_ret
                  exact ⟨rfl, hE⟩
end Go.Proofs.Qxb6605818aFmt
