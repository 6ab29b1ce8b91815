import Derived.Test.Qxb6605818aFmtTgr2
import Derived.Deep.DeepCutAuto
import Derived.Deep.CutRange
import Derived.Deep.RegionLaw
namespace Go.Proofs.Qxb6605818aFmt
open Go.RowKit Go.Maps
set_option linter.unusedVariables false

set_option maxRecDepth 100000 in
set_option maxHeartbeats 40000000 in
theorem target_any (sb d ib P : Nat) (ia : Option Addr) (ic N ga lp nn : Nat) (I : Nat → ByteArray) (ix : ByteArray → Nat) (hs : ByteArray → Bool) (avs : Nat → Value) (A : Nat → List Nat) (G : Nat → Value) (s : Nat → ByteArray) (pl ql : Nat → Nat) (zp zo : Nat → Nat → Int)
    (nm : ByteArray) (m p lm la : Nat) (M f g : Nat → ByteArray) (w : World) (hN : N ≤ 4096) (hlm : lm ≤ 4096) (hla : la ≤ 4096) (hlp : lp ≤ 4096)
    (hfg : ∀ k, k < la → strKey (f k) ∧ strKey (g k) ∧ hs (f k) = true ∧ hs (g k) = true ∧ ix (f k) < N ∧ ix (g k) < N) (hmem : ∀ i, i < N → inStr M (I i) lm = true) (hAl : ∀ i, i < N → (A i).length ≤ 4096) (hAN : ∀ i, i < N → ∀ j ∈ A i, j < N) (hMk : ∀ i, i < lm → strKey (M i)) (hMi : ∀ i, i < lm → hs (M i) = true) (hpl : ∀ q, q < lp → pl q ≤ 2000000) (hql : ∀ q, q < lp → ql q ≤ 2000000) (hS : SwR w sb d ib P ia ic N ga lp nn I ix hs avs A G s pl ql zp zo) (hm : w.rowIs m 9 lm (strV M)) (hp : w.rowIs p 72 (la * 2) (pairV f g)) :
    Calls Tryf.prog 24 #[.pointer (some ⟨sb, 0, none⟩), ordV nm m p lm la] w fun e w' => ∃ v G1 G2 Mb av ac vs1 vs2 als, e = .returned v ∧ TgtR w' v nm m p lm la N lp (fun i => (if i < N then A i else []) ++ bs ix f g i la) (fun j => yf (fun i => (if i < N then A i else []) ++ bs ix f g i la) j N) (alw s pl ql zp zo I) G1 G2 Mb av ac vs1 vs2 als ∧ Below w.heap.size w w' := by
  have HS : Hid (SwR w sb d ib P ia ic N ga lp nn I ix hs avs A G s pl ql zp zo) := hS
  have hNi : (N : Int) ≤ 4096 := by omega
  have hmI := fun w => makeII N (by omega) w
  have hmB := fun w => makeB N (by omega) w
  obtain ⟨w1, hw1⟩ : ∃ w1, (w.alloc (.cells #[.string nm, .slice (some ⟨m, 0, none⟩) lm lm, .slice (some ⟨p, 0, none⟩) la la] 43)).alloc (.cells #[.string ⟨#[]⟩, .slice none 0 0, .slice none 0 0, .slice none 0 0, .slice none 0 0, .slice none 0 0, .slice none 0 0] 67) = w1 := ⟨_, rfl⟩
  have hB1 : Below w.heap.size w w1 := by rw [← hw1]; exact ((Below.refl _ _).alloc (Nat.le_refl _) _).alloc (by simp) _
  have hblk : w1.heap[w.heap.size]? = some (.cells #[.string nm, .slice (some ⟨m, 0, none⟩) lm lm, .slice (some ⟨p, 0, none⟩) la la] 43 (0, 0)) := by rw [← hw1]; exact heap_alloc2_old _ _ _
  have hsz1 : w1.heap.size = w.heap.size + 2 := by rw [← hw1]; simp
  have hS1 := hS.below hB1
  have k0 : w1.cell? ⟨w.heap.size, 0, none⟩ = some (.string nm) ∧ w1.cell? ⟨w.heap.size, 1, none⟩ = some (.slice (some ⟨m, 0, none⟩) lm lm) ∧ w1.cell? ⟨w.heap.size, 2, none⟩ = some (.slice (some ⟨p, 0, none⟩) la la) := by simp [World.cell?, hblk]
  obtain ⟨k0a, k0b, k0c⟩ := k0
  have ci1 := hS1.ci
  have HB1 : Hid (Below w.heap.size w w1) := hB1
  have HL : Hid (∀ X, Below w1.heap.size w1 X → SwR X sb d ib P ia ic N ga lp nn I ix hs avs A G s pl ql zp zo ∧ X.cell? ⟨w.heap.size, 0, none⟩ = some (.string nm) ∧ X.cell? ⟨w.heap.size, 1, none⟩ = some (.slice (some ⟨m, 0, none⟩) lm lm) ∧ X.cell? ⟨w.heap.size, 2, none⟩ = some (.slice (some ⟨p, 0, none⟩) la la)) := fun X hX => ⟨hS1.below hX, (hX.cell (cell_lt k0a)).trans k0a, (hX.cell (cell_lt k0b)).trans k0b, (hX.cell (cell_lt k0c)).trans k0c⟩
  have HHAS : Hid (∀ X x, Below w1.heap.size w1 X → Calls Tryf.prog 26 #[ordV nm m p lm la, .string x] X fun e w' => e = .returned (.bool (inStr M x lm)) ∧ Below X.heap.size X w') := fun X x hX => has_any nm x m p lm la M X hlm ((rowIs_below hm hB1).of_block (hX.block _ (rowIs_below hm hB1).lt))
  have HFG : Hid (∀ k, k < la → strKey (f k) ∧ strKey (g k) ∧ hs (f k) = true ∧ hs (g k) = true ∧ ix (f k) < N ∧ ix (g k) < N) := hfg
  have HPR : Hid (∀ X, Below w1.heap.size w1 X → X.rowIs p 72 (la * 2) (pairV f g)) := fun X hX => (rowIs_below hp hB1).of_block (hX.block _ (rowIs_below hp hB1).lt)
  have hlai : (la : Int) ≤ 4096 := by omega
  have HMEM : Hid (∀ i, i < N → inStr M (I i) lm = true) := hmem
  have HAL : Hid (∀ i, i < N → (A i).length ≤ 4096) := hAl
  have HAN : Hid (∀ i, i < N → ∀ j ∈ A i, j < N) := hAN
  have HADD : Hid (∀ X oa ol oc, Below w1.heap.size w1 X → Calls Tryf.prog 28 #[.pointer (some ⟨sb, 0, none⟩), ordV nm m p lm la, .slice oa ol oc] X fun e w' => e = .returned (.bool true) ∧ Below X.heap.size X w') := fun X oa ol oc hX => addsWithin_any sb ib nn nm m p lm la ol oc oa M _ hs X hlm ((rowIs_below hm hB1).of_block (hX.block _ (rowIs_below hm hB1).lt)) hMk hMi (hS1.below hX).cm (hS1.below hX).mp (fun x => ⟨_, rfl⟩)
  have hres1 : w1.heap[w.heap.size + 1]? = some (.cells #[.string ⟨#[]⟩, .slice none 0 0, .slice none 0 0, .slice none 0 0, .slice none 0 0, .slice none 0 0, .slice none 0 0] 67 (0, 0)) := by rw [← hw1]; exact heap_alloc2_new w _ _
  have HRES : Hid (w.heap.size + 1 < w1.heap.size ∧ ∀ X, Below w1.heap.size w1 X → X.heap[w.heap.size + 1]? = some (.cells #[.string ⟨#[]⟩, .slice none 0 0, .slice none 0 0, .slice none 0 0, .slice none 0 0, .slice none 0 0, .slice none 0 0] 67 (0, 0))) := ⟨block_lt hres1, fun X hX => (hX.block _ (block_lt hres1)).trans hres1⟩
  clear hres1
  have HPL : Hid (∀ q, q < lp → pl q ≤ 2000000) := hpl
  have HQL : Hid (∀ q, q < lp → ql q ≤ 2000000) := hql
  clear hS hB1 hS1 hblk hmem hAl hAN hfg hMk hMi hpl hql
  unfold ordV at HHAS HADD ⊢
  go_enter Tryf.func24, Tryf.ntmps24
  go_upto_region 2 with fail
  go_cut [6] (fun s6 wx => ∃ T G1 G2 Mb, s6 = .pointer (some ⟨T, 0, none⟩) ∧ Hid (TSt w1.heap.size wx T (.string nm) (.slice (some ⟨m, 0, none⟩) lm lm) (.slice (some ⟨p, 0, none⟩) la la) G1 G2 Mb N (.slice none 0 0) (fun _ => .slice none 0 0) (fun _ => []) (fun _ => .slice none 0 0) (fun _ => []) []) ∧ Hid (Below w1.heap.size w1 wx))
  case first =>
    go_region
    all_goals (go_wp2_with fail; go_meet)
    all_goals
      case rel =>
        exact fin_start ((((Below.refl _ _).alloc (Nat.le_refl _) _).alloc (by simp) _).alloc (by simp; omega) _ |>.alloc (by simp; omega) _)
          (by first | (refine at_new _ _ ?_; simp [hsz1]; done) | (refine at_old _ _ (at_new _ _ ?_); simp [hsz1]; done) | (refine at_old _ _ (at_old _ _ (at_new _ _ ?_)); simp [hsz1]; done) | (refine at_old _ _ (at_old _ _ (at_old _ _ (at_new _ _ ?_))); simp [hsz1]; done))
          (by first | (refine at_new _ _ ?_; simp [hsz1]; done) | (refine at_old _ _ (at_new _ _ ?_); simp [hsz1]; done) | (refine at_old _ _ (at_old _ _ (at_new _ _ ?_)); simp [hsz1]; done) | (refine at_old _ _ (at_old _ _ (at_old _ _ (at_new _ _ ?_))); simp [hsz1]; done))
          (by first | (refine at_new _ _ ?_; simp [hsz1]; done) | (refine at_old _ _ (at_new _ _ ?_); simp [hsz1]; done) | (refine at_old _ _ (at_old _ _ (at_new _ _ ?_)); simp [hsz1]; done) | (refine at_old _ _ (at_old _ _ (at_old _ _ (at_new _ _ ?_))); simp [hsz1]; done))
          (by first | (refine at_new _ _ ?_; simp [hsz1]; done) | (refine at_old _ _ (at_new _ _ ?_); simp [hsz1]; done) | (refine at_old _ _ (at_old _ _ (at_new _ _ ?_)); simp [hsz1]; done) | (refine at_old _ _ (at_old _ _ (at_old _ _ (at_new _ _ ?_))); simp [hsz1]; done))
          (by omega)
  case rest =>
    obtain ⟨T, G1, G2, Mb, hs6, HT, HB⟩ := hcut
    subst hs6
    obtain ⟨hSc, _, _, _⟩ := HL.out wc HB.out
    have cic := hSc.ci
    clear hSc
    go_wp2
    go_loopw [41] (fun i wr => ∃ k : Nat, k ≤ N ∧ i = .int .i64 k ∧ ∃ vs1, Hid (TSt w1.heap.size wr T (.string nm) (.slice (some ⟨m, 0, none⟩) lm lm) (.slice (some ⟨p, 0, none⟩) la la) G1 G2 Mb N (.slice none 0 0) vs1 (fun i => if i < k then A i else []) (fun _ => .slice none 0 0) (fun _ => []) []) ∧ Hid (∀ i, k ≤ i → vs1 i = .slice none 0 0) ∧ Hid (Below w1.heap.size w1 wr)) (fun i _ => N - (intOf i).toNat)
    case atStart => exact ⟨0, Nat.zero_le _, rfl, _, by simpa using HT, fun _ _ => rfl, HB⟩
    case round =>
      clear HT HB cic
      obtain ⟨k, hk, rfl, vs1, HT, HV, HB⟩ := hrel
      by_cases hlt : k < N
      · have hlti : (k : Int) < (N : Int) := by omega
        have hTd := HT.out.new ((Below.refl wr.heap.size wr).drew)
        have hBd : Below w1.heap.size w1 wr.drew := HB.out.drew
        obtain ⟨hSd, _, _, _⟩ := HL.out wr.drew hBd
        obtain ⟨aa, ac, hav, hsl, han⟩ := hSd.row k hlt
        have hsz := hBd.size
        obtain ⟨v', w2, e1, e2, e3, e4⟩ := app_all (base := w1.heap.size) aa (A k).length ac (A k) rfl (by have := HAL.out k hlt; omega) hsl (fun e => by obtain ⟨q1, q2⟩ := han e; exact ⟨by rw [q1]; rfl, q2⟩) hsz
        obtain ⟨a', c', hv', _, _⟩ := e2.shape
        simp only [List.length_map] at hv'
        subst hv'
        have hvk := HV.out k (Nat.le_refl _)
        obtain ⟨r1, r2, r3, r4⟩ := hTd.store1 hlt e2 (Foot.of_below e3) (by rw [hvk]; exact e4)
        rw [hvk] at r3
        have hT2 := hTd.new e3
        have hB2 : Below w1.heap.size w1 w2 := hBd.trans (e3.mono hsz)
        obtain ⟨w3, hw3⟩ : ∃ w3, w2.setCell ⟨G1, k, none⟩ (.slice a' (A k).length c') = w3 := ⟨_, rfl⟩
        rw [hw3] at r1 r2
        have hB3 : Below w1.heap.size w1 w3 := hBd.trans r2
        have L6 : ∀ X vsX XX, TSt w1.heap.size X T (.string nm) (.slice (some ⟨m, 0, none⟩) lm lm) (.slice (some ⟨p, 0, none⟩) la la) G1 G2 Mb N (.slice none 0 0) vsX XX (fun _ => .slice none 0 0) (fun _ => []) [] → Below w1.heap.size w1 X → X.cell? ⟨T, 3, none⟩ = some (.slice (some ⟨G1, 0, none⟩) N N) ∧ X.cell? ⟨sb, 7, none⟩ = some (.slice (some ⟨ga, 0, none⟩) N N) ∧ X.cell? ⟨ga, k, none⟩ = some (.slice aa (A k).length ac) := fun X vsX XX hT hB => by
          obtain ⟨hSX, _, _, _⟩ := HL.out X hB
          refine ⟨hT.cell.1, hSX.ca, ?_⟩
          rw [hSX.aft.cell hlt, hav]
        obtain ⟨s1a, s1b, s1c⟩ := L6 _ _ _ hTd hBd
        obtain ⟨s2a, s2b, s2c⟩ := L6 _ _ _ hT2 hB2
        have g1 : wr.drew.cell? ⟨G1, k, none⟩ = some (.slice none 0 0) := by rw [hTd.n1.out.cell hlt, hvk]
        have HT3 : Hid (TSt w1.heap.size w3 T (.string nm) (.slice (some ⟨m, 0, none⟩) lm lm) (.slice (some ⟨p, 0, none⟩) la la) G1 G2 Mb N (.slice none 0 0) (upd vs1 k (.slice a' (A k).length c')) (upd (fun i => if i < k then A i else []) k (A k)) (fun _ => .slice none 0 0) (fun _ => []) []) := r1
        have HB3 : Hid (Below w1.heap.size w1 w3) := hB3
        clear hTd hBd hSd hav hsl han e2 e3 e4 r1 r2 hT2 hB2 hB3 L6 hvk
        go_upto_region 6 with fail
        go_cut [] (fun wx => wx = w3)
        case first =>
          refine only_use (t6 (W := wr) s1a s1b s1c s2a g1 r3 r4 hlti e1) ?_
          rintro _ _ ⟨x44, x45, x46, x47, x48, x49, x50, x51, x52, x53, x54, x55, x56, x57, x58, x59, x60, rfl, rfl⟩
          go_wp2_with fail
          go_meet
          case rel => exact hw3
        case rest =>
          obtain rfl := hcut
          clear s1a s1b s1c s2a s2b s2c g1 r3 r4 e1
          obtain ⟨hS3, b0, b1, b2⟩ := HL.out wc HB3.out
          obtain ⟨y, hy, hcy⟩ := hS3.ids k hlt
          have hia : ia = some y := hy
          subst hia
          have L7 : Hid (∀ X vsX XX, TSt w1.heap.size X T (.string nm) (.slice (some ⟨m, 0, none⟩) lm lm) (.slice (some ⟨p, 0, none⟩) la la) G1 G2 Mb N (.slice none 0 0) vsX XX (fun _ => .slice none 0 0) (fun _ => []) [] → Below w1.heap.size w1 X → (X.cell? ⟨T, 5, none⟩ = some (.slice (some ⟨Mb, 0, none⟩) N N) ∧ X.cell? ⟨w.heap.size, 0, none⟩ = some (.string nm) ∧ X.cell? ⟨w.heap.size, 1, none⟩ = some (.slice (some ⟨m, 0, none⟩) lm lm) ∧ X.cell? ⟨w.heap.size, 2, none⟩ = some (.slice (some ⟨p, 0, none⟩) la la) ∧ X.cell? ⟨sb, 4, none⟩ = some (.slice (some y) N ic) ∧ X.cell? (y.add k) = some (.string (I k))) ∧ X.cell? ⟨Mb, k, none⟩ = some (.bool false) ∧ X.frozen? ⟨Mb, k, none⟩ = false) := fun X vsX XX hT hB => by
            obtain ⟨hSX, c0, c1, c2⟩ := HL.out X hB
            obtain ⟨y', hy', hcy'⟩ := hSX.ids k hlt
            cases hy'
            exact ⟨⟨hT.cell.2.2.1, c0, c1, c2, hSX.ci, hcy'⟩, hT.mu.cell hlt, hT.mu.frozen k⟩
          have HTd : Hid (TSt w1.heap.size wc.drew T (.string nm) (.slice (some ⟨m, 0, none⟩) lm lm) (.slice (some ⟨p, 0, none⟩) la la) G1 G2 Mb N (.slice none 0 0) (upd vs1 k (.slice a' (A k).length c')) (upd (fun i => if i < k then A i else []) k (A k)) (fun _ => .slice none 0 0) (fun _ => []) []) := HT3.out.new ((Below.refl wc.heap.size wc).drew)
          have HBd : Hid (Below w1.heap.size w1 wc.drew) := HB3.out.drew
          obtain ⟨q1, _, _⟩ := L7.out _ _ _ HTd.out HBd.out
          clear hS3 hcy b0 b1 b2 hy
          go_wp2_with fail
          go_region_held3 (fun X => X.cell? ⟨T, 5, none⟩ = some (.slice (some ⟨Mb, 0, none⟩) N N) ∧ X.cell? ⟨w.heap.size, 0, none⟩ = some (.string nm) ∧ X.cell? ⟨w.heap.size, 1, none⟩ = some (.slice (some ⟨m, 0, none⟩) lm lm) ∧ X.cell? ⟨w.heap.size, 2, none⟩ = some (.slice (some ⟨p, 0, none⟩) la la) ∧ X.cell? ⟨sb, 4, none⟩ = some (.slice (some y) N ic) ∧ X.cell? (y.add k) = some (.string (I k)))
            (first | exact q1 | exact (L7.out _ _ _ (Hid.out (by assumption)) (Hid.out (by assumption))).1 | exact (L7.out _ _ _ (TSt.must (Hid.out (by assumption)) k).1 (Below.trans (Hid.out (by assumption)) (TSt.must (Hid.out (by assumption)) k).2)).1)
            (first
              | (go_at_call 26
                 refine Calls.mono (HHAS.out _ _ (Hid.out (by assumption))) ?_
                 rintro e w5 ⟨rfl, hb5⟩
                 have HT5 : Hid (TSt w1.heap.size w5 T (.string nm) (.slice (some ⟨m, 0, none⟩) lm lm) (.slice (some ⟨p, 0, none⟩) la la) G1 G2 Mb N (.slice none 0 0) (upd vs1 k (.slice a' (A k).length c')) (upd (fun i => if i < k then A i else []) k (A k)) (fun _ => .slice none 0 0) (fun _ => []) []) := HTd.out.new hb5
                 have HB5 : Hid (Below w1.heap.size w1 w5) := HBd.out.trans (hb5.mono HBd.out.size)
                 obtain ⟨_, z1, z2⟩ := L7.out _ _ _ HT5.out HB5.out
                 rw [HMEM.out k hlt]
                 clear hb5))
          obtain ⟨u1, u2⟩ := HT5.out.must k
          have hX : upd (fun i => if i < k then A i else []) k (A k) = fun i => if i < k + 1 then A i else [] := by
            funext i
            by_cases e : i = k
            · subst e; rw [upd_same, if_pos (by omega)]
            · rw [upd_other _ _ e]
              by_cases e2 : i < k
              · rw [if_pos e2, if_pos (by omega)]
              · rw [if_neg e2, if_neg (by omega)]
          rw [hX] at u1
          have U1 : Hid (TSt w1.heap.size (w5.setCell ⟨Mb, k, none⟩ (.bool false)) T (.string nm) (.slice (some ⟨m, 0, none⟩) lm lm) (.slice (some ⟨p, 0, none⟩) la la) G1 G2 Mb N (.slice none 0 0) (upd vs1 k (.slice a' (A k).length c')) (fun i => if i < k + 1 then A i else []) (fun _ => .slice none 0 0) (fun _ => []) []) := u1
          have U2 : Hid (Below w1.heap.size w1 (w5.setCell ⟨Mb, k, none⟩ (.bool false))) := HB5.out.trans u2
          clear u1 u2 hX q1 z1 z2
          go_wp2
          refine ⟨⟨k + 1, by omega, by go_num, _, U1, fun i hi => ?_, U2⟩, ?_⟩
          · rw [upd_other _ _ (by omega)]
            exact HV.out i (by omega)
          · simp [intOf]; omega
      · obtain rfl : N = k := by omega
        have HT1 : Hid (TSt w1.heap.size wr T (.string nm) (.slice (some ⟨m, 0, none⟩) lm lm) (.slice (some ⟨p, 0, none⟩) la la) G1 G2 Mb N (.slice none 0 0) vs1 (fun i => if i < N then A i else []) (fun _ => .slice none 0 0) (fun _ => []) []) := HT.out
        obtain ⟨_, _, _, b2⟩ := HL.out wr HB.out
        clear HT HV
        go_wp2
        go_loopw [79] (fun i wr => ∃ k : Nat, k ≤ la ∧ i = .int .i64 k ∧ ∃ vs1, Hid (TSt w1.heap.size wr T (.string nm) (.slice (some ⟨m, 0, none⟩) lm lm) (.slice (some ⟨p, 0, none⟩) la la) G1 G2 Mb N (.slice none 0 0) vs1 (fun i => (if i < N then A i else []) ++ bs ix f g i k) (fun _ => .slice none 0 0) (fun _ => []) []) ∧ Hid (Below w1.heap.size w1 wr)) (fun i _ => la - (intOf i).toNat)
        case atStart => exact ⟨0, Nat.zero_le _, rfl, vs1, by simpa [bs] using HT1, HB⟩
        case round =>
          clear HT1 HB b2
          obtain ⟨k, hk, rfl, vs1, HT, HB⟩ := hrel
          by_cases hlt : k < la
          · have hlti : (k : Int) < (la : Int) := by omega
            obtain ⟨c1, c2⟩ := pair_cells (HPR.out wr HB.out) hlt
            obtain ⟨kf, kg, tf, tg, nf, ng⟩ := HFG.out k hlt
            obtain ⟨s0, hs0⟩ : ∃ s0, f k = s0 := ⟨_, rfl⟩
            obtain ⟨s1, hs1⟩ : ∃ s1, g k = s1 := ⟨_, rfl⟩
            rw [hs0] at c1 kf tf nf
            rw [hs1] at c2 kg tg ng
            obtain ⟨x0, hx0⟩ : ∃ x0, ix s0 = x0 := ⟨_, rfl⟩
            obtain ⟨x1, hx1⟩ : ∃ x1, ix s1 = x1 := ⟨_, rfl⟩
            have HX0 : Hid (ix (f k) = x0 ∧ ix (g k) = x1) := ⟨by rw [hs0, hx0], by rw [hs1, hx1]⟩
            rw [hx0] at nf
            rw [hx1] at ng
            obtain ⟨w2, hw2⟩ : ∃ w2, wr.alloc (.cells #[.string s0, .string s1] 72) = w2 := ⟨_, rfl⟩
            have hb2 : Below wr.heap.size wr w2 := by rw [← hw2]; exact (Below.refl _ _).alloc (Nat.le_refl _) _
            have hblk : w2.heap[wr.heap.size]? = some (.cells #[.string s0, .string s1] 72 (0, 0)) := by rw [← hw2]; exact heap_alloc_new _ _
            have hsz2 : w2.heap.size = wr.heap.size + 1 := by rw [← hw2]; simp
            have HT2 : Hid (TSt w1.heap.size w2 T (.string nm) (.slice (some ⟨m, 0, none⟩) lm lm) (.slice (some ⟨p, 0, none⟩) la la) G1 G2 Mb N (.slice none 0 0) vs1 (fun i => (if i < N then A i else []) ++ bs ix f g i k) (fun _ => .slice none 0 0) (fun _ => []) []) := HT.out.new hb2
            have HB2 : Hid (Below w1.heap.size w1 w2) := HB.out.trans (hb2.mono HB.out.size)
            obtain ⟨pb, hpb⟩ : ∃ pb, wr.heap.size = pb := ⟨_, rfl⟩
            rw [hpb] at hblk
            have LK : Hid (∀ X, Below w2.heap.size w2 X → (X.cell? ⟨sb, 5, none⟩ = some (.map (some ib)) ∧ X.cell? ⟨pb, 1, none⟩ = some (.string s1) ∧ (Instr.lookup 73 (.map (some ib)) (.string s1) true).run Tryf.prog X = .ok (.tuple #[.int .i64 (x1 : Nat), .bool true]) X) ∧ (X.cell? ⟨sb, 5, none⟩ = some (.map (some ib)) ∧ X.cell? ⟨pb, 0, none⟩ = some (.string s0) ∧ (Instr.lookup 73 (.map (some ib)) (.string s0) true).run Tryf.prog X = .ok (.tuple #[.int .i64 (x0 : Nat), .bool true]) X)) := fun X hX => by
              obtain ⟨hSX, _, _, _⟩ := HL.out X (HB2.out.trans (hX.mono HB2.out.size))
              have hbX : X.heap[pb]? = some (.cells #[.string s0, .string s1] 72 (0, 0)) := (hX.block pb (block_lt hblk)).trans hblk
              have l1 := hSX.mp.look_ok law9 Go.Proofs.Qxb6605818aFmt.u73 (zero3 X) s1 kg
              have l0 := hSX.mp.look_ok law9 Go.Proofs.Qxb6605818aFmt.u73 (zero3 X) s0 kf
              rw [tg, hx1] at l1
              rw [tf, hx0] at l0
              exact ⟨⟨hSX.cm, by simp [World.cell?, hbX], l1⟩, hSX.cm, by simp [World.cell?, hbX], l0⟩
            have nfi : (x0 : Int) < (N : Int) := by omega
            clear hs0 hs1 hx0 hx1 kf kg tf tg hb2
            have D1 : Hid (Below w2.heap.size w2 w2.drew) := (Below.refl _ _).drew
            have D2 : Hid (Below w2.heap.size w2 w2.drew.drew) := (Below.refl _ _).drew.drew
            have D3 : Hid (Below w2.heap.size w2 w2.drew.drew.drew) := (Below.refl _ _).drew.drew.drew
            go_wp2_with fail
            go_region_held3 (fun X => X.cell? ⟨sb, 5, none⟩ = some (.map (some ib)) ∧ X.cell? ⟨pb, 1, none⟩ = some (.string s1) ∧ (Instr.lookup 73 (.map (some ib)) (.string s1) true).run Tryf.prog X = .ok (.tuple #[.int .i64 (x1 : Nat), .bool true]) X) (exact (LK.out _ (Hid.out (by assumption))).1) (fail)
            go_wp2_with fail
            go_region_held3 (fun X => X.cell? ⟨sb, 5, none⟩ = some (.map (some ib)) ∧ X.cell? ⟨pb, 0, none⟩ = some (.string s0) ∧ (Instr.lookup 73 (.map (some ib)) (.string s0) true).run Tryf.prog X = .ok (.tuple #[.int .i64 (x0 : Nat), .bool true]) X) (exact (LK.out _ (Hid.out (by assumption))).2) (fail)
            have hTW := HT2.out.new D3.out
            have hBW : Below w1.heap.size w1 w2.drew.drew.drew := HB2.out.trans (D3.out.mono HB2.out.size)
            obtain ⟨v', w4, e1, e2, e3, e4, e5⟩ := app1 (T := 23) _ _ Tryf.underlying23 info3 rfl (by omega) (hTW.n1.own x0 nf) (encN x1) rfl (by
              have h1 := bs_length ix f g x0 k
              have h2 := HAL.out x0 nf
              simp only [List.length_map, List.length_append]
              rw [if_pos nf]
              omega) hBW.size
            obtain ⟨g', c', hv'⟩ := e5
            obtain ⟨L1, hL1⟩ : ∃ L1, (((if x0 < N then A x0 else []) ++ bs ix f g x0 k).map encN).length + 1 = L1 := ⟨_, rfl⟩
            rw [hL1] at hv'
            subst hv'
            have ho : Own w1.heap.size 3 w4 (.slice (some ⟨g', 0, none⟩) L1 c') ((((if x0 < N then A x0 else []) ++ bs ix f g x0 k) ++ [x1]).map encN) := by rw [List.map_append (l₂ := [x1])]; exact e2
            obtain ⟨r1, r2, r3, r4⟩ := hTW.store1 nf ho e3 (by
              rcases e4 with e | e
              · exact .inl e
              · exact .inr ⟨_, e, by omega⟩)
            obtain ⟨w6, hw6⟩ : ∃ w6, w4.setCell ⟨G1, x0, none⟩ (.slice (some ⟨g', 0, none⟩) L1 c') = w6 := ⟨_, rfl⟩
            rw [hw6] at r1 r2
            obtain ⟨V, hV⟩ : ∃ V, vs1 x0 = V := ⟨_, rfl⟩
            have hszp : w2.heap.size = pb + 1 := by omega
            have e1 : ∀ ty, (Builtin.append_ #[23, 23] ty #[V, .slice (some ⟨w2.drew.drew.heap.size, 0, none⟩) 1 1]).run Tryf.prog (w2.drew.drew.alloc (.cells #[.int .i64 (x1 : Nat)] 3)).drew = .ok (.slice (some ⟨g', 0, none⟩) L1 c') w4 := by
              rw [← hV]
              exact e1
            have hAl : Below w2.heap.size w2 (w2.alloc (.cells #[.int .i64 (x1 : Nat)] 3)).drew.drew.drew := ((Below.refl _ _).alloc (Nat.le_refl _) _).drew.drew.drew
            have hTA := HT2.out.new hAl
            have tA := hTW.cell.1
            have tB := hTA.cell.1
            have tC : w4.cell? ⟨T, 3, none⟩ = some (.slice (some ⟨G1, 0, none⟩) N N) := e3.cell tA (fun e => (own3_ne hTW (hTW.n1.own x0 nf) e).1 rfl)
            have gA := hTW.n1.out.cell nf
            have gB := hTA.n1.out.cell nf
            rw [hV] at gA gB r3
            have HT6 : Hid (TSt w1.heap.size w6 T (.string nm) (.slice (some ⟨m, 0, none⟩) lm lm) (.slice (some ⟨p, 0, none⟩) la la) G1 G2 Mb N (.slice none 0 0) (upd vs1 x0 (.slice (some ⟨g', 0, none⟩) L1 c')) (upd (fun i => (if i < N then A i else []) ++ bs ix f g i k) x0 (((if x0 < N then A x0 else []) ++ bs ix f g x0 k) ++ [x1])) (fun _ => .slice none 0 0) (fun _ => []) []) := r1
            have HB6 : Hid (Below w1.heap.size w1 w6) := hBW.trans r2
            clear hTW hBW e2 e3 e4 ho r1 r2 hL1 hAl hTA hV hsz2
            have hX : upd (fun i => (if i < N then A i else []) ++ bs ix f g i k) x0 (((if x0 < N then A x0 else []) ++ bs ix f g x0 k) ++ [x1]) = fun i => (if i < N then A i else []) ++ bs ix f g i (k + 1) := by
              obtain ⟨y0, y1⟩ := HX0.out
              funext i
              by_cases e : i = x0
              · subst e
                rw [upd_same]
                simp only [bs]
                rw [if_pos y0, y1, List.append_assoc]
              · rw [upd_other _ _ e]
                have hne : ¬ ix (f k) = i := by rw [y0]; omega
                simp only [bs, if_neg hne, List.append_nil]
            rw [hX] at HT6
            clear hX
            go_wp2_with fail
            refine only_use (t16 (W := w2.drew.drew) tA tB tC gA gB r3 r4 nfi e1) ?_
            rintro _ _ ⟨x106, x107, x108, x109, x110, x111, x112, x113, x114, x115, x116, x117, rfl, rfl⟩
            go_wp2
            refine ⟨⟨k + 1, by omega, by go_num, _, HT6, HB6⟩, ?_⟩
            simp [intOf]; omega
          · obtain rfl : la = k := by omega
            obtain ⟨X, hX⟩ : ∃ X : Nat → List Nat, X = fun i => (if i < N then A i else []) ++ bs ix f g i la := ⟨_, rfl⟩
            have HX : Hid (X = fun i => (if i < N then A i else []) ++ bs ix f g i la) := hX
            rw [← hX] at HT
            have HXL : Hid (∀ i, (X i).length ≤ 8192) := fun i => by
              have h1 := bs_length ix f g i la
              rw [hX]
              simp only [List.length_append]
              by_cases e : i < N
              · have h2 := HAL.out i e
                rw [if_pos e]; omega
              · rw [if_neg e]; simp; omega
            have HXN : Hid (∀ i, i < N → ∀ j ∈ X i, j < N) := fun i hi j hj => by
              rw [hX] at hj
              rcases List.mem_append.1 hj with hj | hj
              · rw [if_pos hi] at hj
                exact HAN.out i hi j hj
              · obtain ⟨k, hk, rfl⟩ := bs_mem ix f g i la j hj
                exact (HFG.out k hk).2.2.2.2.2
            have t3 := HT.out.cell.1
            clear hX
            go_wp2
            go_loopw [126] (fun i wr => ∃ k : Nat, k ≤ N ∧ i = .int .i64 k ∧ ∃ vs2, Hid (TSt w1.heap.size wr T (.string nm) (.slice (some ⟨m, 0, none⟩) lm lm) (.slice (some ⟨p, 0, none⟩) la la) G1 G2 Mb N (.slice none 0 0) vs1 X vs2 (fun j => yf X j k) []) ∧ Hid (Below w1.heap.size w1 wr)) (fun i _ => N - (intOf i).toNat)
            case atStart => exact ⟨0, Nat.zero_le _, rfl, _, HT, HB⟩
            case round =>
              clear HT HB t3
              obtain ⟨k, hk, rfl, vs2, HT, HB⟩ := hrel
              by_cases hlt : k < N
              · have hlti : (k : Int) < (N : Int) := by omega
                have gk := HT.out.n1.out.cell hlt
                obtain ⟨a, c, hv, hsl, han⟩ := HT.out.n1.read hlt
                rw [hv] at gk
                have HV : Hid (vs1 k = .slice a (X k).length c) := hv
                obtain ⟨Lk, hLk⟩ : ∃ Lk, (X k).length = Lk := ⟨_, rfl⟩
                rw [hLk] at gk
                have HLK : Hid ((X k).length = Lk) := hLk
                have hLi : (Lk : Int) ≤ 8192 := by have := HXL.out k; omega
                clear hv hsl han hLk
                go_wp2
                go_loopw [133] (fun i wr => ∃ t : Nat, t ≤ Lk ∧ i = .int .i64 t ∧ ∃ vs2, Hid (TSt w1.heap.size wr T (.string nm) (.slice (some ⟨m, 0, none⟩) lm lm) (.slice (some ⟨p, 0, none⟩) la la) G1 G2 Mb N (.slice none 0 0) vs1 X vs2 (fun j => yp X k t j) []) ∧ Hid (Below w1.heap.size w1 wr)) (fun i _ => Lk - (intOf i).toNat)
                case atStart => exact ⟨0, Nat.zero_le _, rfl, vs2, by simpa only [yp_zero] using HT, HB⟩
                case round =>
                  clear HT HB gk
                  obtain ⟨t, ht, rfl, vs2, HT, HB⟩ := hrel
                  by_cases htl : t < Lk
                  · have hti : (t : Int) < (Lk : Int) := by omega
                    have htl' : t < (X k).length := by rw [HLK.out]; exact htl
                    obtain ⟨a', c', hv', hsl, _⟩ := HT.out.n1.read hlt
                    rw [HV.out] at hv'
                    obtain ⟨y, hy, hcy⟩ := hsl t htl'
                    obtain rfl : a = some y := by
                      have e1 : a = a' := by injection hv'
                      exact e1.trans hy
                    clear hv' hsl hy
                    obtain ⟨x0, hx0⟩ : ∃ x0, (X k)[t]'htl' = x0 := ⟨_, rfl⟩
                    have nf : x0 < N := HXN.out k hlt _ (hx0 ▸ List.getElem_mem htl')
                    have hcx : wr.cell? (y.add t) = some (.int .i64 (x0 : Nat)) := by
                      rw [hcy]
                      simp [encN, List.getD, htl', hx0]
                    have nfi : (x0 : Int) < (N : Int) := by omega
                    have HX0 : Hid (∃ h : t < (X k).length, (X k)[t] = x0) := ⟨htl', hx0⟩
                    have hbW : Below wr.heap.size wr wr.drew := (Below.refl _ _).drew
                    have hTW := HT.out.new hbW
                    have hBW : Below w1.heap.size w1 wr.drew := HB.out.drew
                    obtain ⟨v', w4, e1, e2, e3, e4, e5⟩ := app1 (T := 23) _ _ Tryf.underlying23 info3 rfl (by omega) (hTW.n2.own x0 nf) (encN k) rfl (by
                      have h1 := yp_length X x0 8192 HXL.out k t
                      simp only [List.length_map]
                      omega) hBW.size
                    obtain ⟨g', c', hv'⟩ := e5
                    obtain ⟨L1, hL1⟩ : ∃ L1, ((yp X k t x0).map encN).length + 1 = L1 := ⟨_, rfl⟩
                    rw [hL1] at hv'
                    subst hv'
                    have ho : Own w1.heap.size 3 w4 (.slice (some ⟨g', 0, none⟩) L1 c') ((yp X k t x0 ++ [k]).map encN) := by rw [List.map_append (l₂ := [k])]; exact e2
                    obtain ⟨r1, r2, r3, r4⟩ := hTW.store2 nf ho e3 (by
                      rcases e4 with e | e
                      · exact .inl e
                      · exact .inr ⟨_, e, by omega⟩)
                    obtain ⟨w6, hw6⟩ : ∃ w6, w4.setCell ⟨G2, x0, none⟩ (.slice (some ⟨g', 0, none⟩) L1 c') = w6 := ⟨_, rfl⟩
                    rw [hw6] at r1 r2
                    obtain ⟨V, hV⟩ : ∃ V, vs2 x0 = V := ⟨_, rfl⟩
                    have e1 : ∀ ty, (Builtin.append_ #[23, 23] ty #[V, .slice (some ⟨wr.heap.size, 0, none⟩) 1 1]).run Tryf.prog (wr.alloc (.cells #[.int .i64 (k : Nat)] 3)).drew = .ok (.slice (some ⟨g', 0, none⟩) L1 c') w4 := by
                      rw [← hV]
                      exact e1
                    have hAl : Below wr.heap.size wr (wr.alloc (.cells #[.int .i64 (k : Nat)] 3)).drew := ((Below.refl _ _).alloc (Nat.le_refl _) _).drew
                    have hTA := HT.out.new hAl
                    have tA := hTW.cell.2.1
                    have tB := hTA.cell.2.1
                    have tC : w4.cell? ⟨T, 4, none⟩ = some (.slice (some ⟨G2, 0, none⟩) N N) := e3.cell tA (fun e => (own3_ne hTW (hTW.n2.own x0 nf) e).1 rfl)
                    have gA := hTW.n2.out.cell nf
                    have gB := hTA.n2.out.cell nf
                    rw [hV] at gA gB r3
                    have hX : upd (fun j => yp X k t j) x0 (yp X k t x0 ++ [k]) = fun j => yp X k (t + 1) j := by
                      funext j
                      by_cases e : j = x0
                      · subst e
                        rw [upd_same]
                        have := yp_hit X k t htl'
                        rw [hx0] at this
                        exact this.symm
                      · rw [upd_other _ _ e]
                        exact (yp_miss X k t j htl' (by rw [hx0]; exact e)).symm
                    rw [hX] at r1
                    have HT6 : Hid (TSt w1.heap.size w6 T (.string nm) (.slice (some ⟨m, 0, none⟩) lm lm) (.slice (some ⟨p, 0, none⟩) la la) G1 G2 Mb N (.slice none 0 0) vs1 X (upd vs2 x0 (.slice (some ⟨g', 0, none⟩) L1 c')) (fun j => yp X k (t + 1) j) []) := r1
                    have HB6 : Hid (Below w1.heap.size w1 w6) := hBW.trans r2
                    clear hTW hBW e2 e3 e4 ho r1 r2 hL1 hAl hTA hV hX hcy hx0 htl' HX0 hbW
                    go_wp2_with fail
                    refine only_use (t25 (W := wr) tA tB tC gA gB r3 r4 nfi e1) ?_
                    rintro _ _ ⟨x137, x138, x139, x140, x141, x142, x143, x144, x145, x146, x147, x148, rfl, rfl⟩
                    go_wp2
                    refine ⟨⟨t + 1, by omega, by go_num, _, HT6, HB6⟩, ?_⟩
                    simp [intOf]; omega
                  · obtain rfl : Lk = t := by omega
                    go_wp2
                    refine ⟨⟨k + 1, by omega, by go_num, vs2, ?_, HB⟩, ?_⟩
                    · have h1 := HT.out
                      simp only [← HLK.out, yp_end] at h1
                      exact h1
                    · simp [intOf]; omega
              · obtain rfl : N = k := by omega
                have HT3 : Hid (TSt w1.heap.size wr T (.string nm) (.slice (some ⟨m, 0, none⟩) lm lm) (.slice (some ⟨p, 0, none⟩) la la) G1 G2 Mb N (.slice none 0 0) vs1 X vs2 (fun j => yf X j N) []) := HT
                obtain ⟨hSx, _, _, _⟩ := HL.out wr HB.out
                have d1 := hSx.cd
                have d2 := hSx.cp
                clear hSx HT
                go_wp2
                go_loopw [159] (fun i wr => ∃ k : Nat, k ≤ lp ∧ i = .int .i64 k ∧ ∃ av als, Hid (TSt w1.heap.size wr T (.string nm) (.slice (some ⟨m, 0, none⟩) lm lm) (.slice (some ⟨p, 0, none⟩) la la) G1 G2 Mb N av vs1 X vs2 (fun j => yf X j N) als) ∧ Hid (als.length = k) ∧ Hid (∀ q, q < k → ∃ b, als[q]? = some (.slice (some ⟨b, 0, none⟩) N N) ∧ wr.rowIs b 4 N (boolV (alw s pl ql zp zo I q))) ∧ Hid (Below w1.heap.size w1 wr)) (fun i _ => lp - (intOf i).toNat)
                case atStart => exact ⟨0, Nat.zero_le _, rfl, _, [], HT3, rfl, fun q hq => absurd hq (by omega), HB⟩
                case round =>
                  clear HT3 HB d1 d2
                  obtain ⟨k, hk, rfl, av, als, HT, HLN, HAR, HB⟩ := hrel
                  by_cases hlt : k < lp
                  · have hlti : (k : Int) < (lp : Int) := by omega
                    obtain ⟨x, y, gx, gy, _, _, rx, ry⟩ := (HL.out w1 (Below.refl _ _)).1.pref k hlt
                    have hpr := (HL.out wr HB.out).1.prefs
                    have c1 := hpr.cell (i := k * 2) (by omega)
                    have c2 := hpr.cell (i := k * 2 + 1) (by omega)
                    rw [gx] at c1
                    rw [gy] at c2
                    have HRX : Hid (∀ X, Below w1.heap.size w1 X → X.rowIs x 9 (pl k) (strV (pick s (zp k))) ∧ X.rowIs y 9 (ql k) (strV (pick s (zo k)))) := fun X hX => ⟨rowIs_below rx hX, rowIs_below ry hX⟩
                    have HPLQ : Hid (pl k ≤ 2000000 ∧ ql k ≤ 2000000) := ⟨HPL.out k hlt, HQL.out k hlt⟩
                    have HCP : Hid (∀ X id, Below w1.heap.size w1 X → Calls Tryf.prog 29 #[.slice (some ⟨x, 0, none⟩) (pl k) (pl k), .string id] X fun e w'' => e = .returned (.bool (inStr (pick s (zp k)) id (pl k))) ∧ w'' = X) := fun X id hX => contains_any _ _ _ _ id X HPLQ.out.1 (Sl.row (HRX.out X hX).1)
                    have HCO : Hid (∀ X id, Below w1.heap.size w1 X → Calls Tryf.prog 29 #[.slice (some ⟨y, 0, none⟩) (ql k) (ql k), .string id] X fun e w'' => e = .returned (.bool (inStr (pick s (zo k)) id (ql k))) ∧ w'' = X) := fun X id hX => contains_any _ _ _ _ id X HPLQ.out.2 (Sl.row (HRX.out X hX).2)
                    obtain ⟨w2, hw2⟩ : ∃ w2, wr.alloc (.cells #[.slice (some ⟨x, 0, none⟩) (pl k) (pl k), .slice (some ⟨y, 0, none⟩) (ql k) (ql k)] 64) = w2 := ⟨_, rfl⟩
                    have hb2 : Below wr.heap.size wr w2 := by rw [← hw2]; exact (Below.refl _ _).alloc (Nat.le_refl _) _
                    have hblk : w2.heap[wr.heap.size]? = some (.cells #[.slice (some ⟨x, 0, none⟩) (pl k) (pl k), .slice (some ⟨y, 0, none⟩) (ql k) (ql k)] 64 (0, 0)) := by rw [← hw2]; exact heap_alloc_new _ _
                    have HB2 : Hid (Below w1.heap.size w1 w2) := HB.out.trans (hb2.mono HB.out.size)
                    obtain ⟨pb, hpb⟩ : ∃ pb, wr.heap.size = pb := ⟨_, rfl⟩
                    rw [hpb] at hblk
                    have HBK : Hid (w2.heap[pb]? = some (.cells #[.slice (some ⟨x, 0, none⟩) (pl k) (pl k), .slice (some ⟨y, 0, none⟩) (ql k) (ql k)] 64 (0, 0))) := hblk
                    have HW2 : Hid (Below wr.heap.size wr w2) := hb2
                    obtain ⟨_, o0, o1, o2⟩ := HL.out w2 HB2.out
                    have q1 : w2.cell? ⟨pb, 1, none⟩ = some (.slice (some ⟨y, 0, none⟩) (ql k) (ql k)) := by simp [World.cell?, hblk]
                    clear gx gy rx ry hpr hblk hb2
                    go_wp2_with fail
                    refine Calls.mono (HADD.out w2 _ _ _ HB2.out) ?_
                    rintro e w3 ⟨rfl, hb3⟩
                    have HB3 : Hid (Below w1.heap.size w1 w3) := HB2.out.trans (hb3.mono HB2.out.size)
                    have HW3 : Hid (Below w2.heap.size w2 w3) := hb3
                    obtain ⟨mb, hmb⟩ : ∃ mb, w3.heap.size = mb := ⟨_, rfl⟩
                    obtain ⟨w4, hw4⟩ : ∃ w4, w3.alloc (.cells (madeCells #[.bool false] N) 4) = w4 := ⟨_, rfl⟩
                    have hr4 : w4.rowIs mb 4 N (boolV fun _ => false) := by rw [← hw4, ← hmb]; exact World.rowIs_made w3 _ N 4
                    have hb4 : Below w3.heap.size w3 w4 := by rw [← hw4]; exact (Below.refl _ _).alloc (Nat.le_refl _) _
                    have HB4 : Hid (Below w1.heap.size w1 w4) := HB3.out.trans (hb4.mono HB3.out.size)
                    obtain ⟨hS4, _, _, _⟩ := HL.out w4 HB4.out
                    have i4 := hS4.ci
                    have HR4 : Hid (w4.rowIs mb 4 N (boolV fun _ => false)) := hr4
                    have HW4 : Hid (Below w3.heap.size w3 w4) := hb4
                    have LX : Hid (∀ X, Below w3.heap.size w3 X → Below w1.heap.size w1 X ∧ X.cell? ⟨pb, 0, none⟩ = some (.slice (some ⟨x, 0, none⟩) (pl k) (pl k)) ∧ X.cell? ⟨pb, 1, none⟩ = some (.slice (some ⟨y, 0, none⟩) (ql k) (ql k))) := fun X hX => by
                      have h23 := HW3.out.trans (hX.mono HW3.out.size)
                      have hk := (h23.block pb (block_lt HBK.out)).trans HBK.out
                      exact ⟨HB2.out.trans (h23.mono HB2.out.size), by simp [World.cell?, hk], by simp [World.cell?, hk]⟩
                    clear hb3 hr4 hb4 hS4 o0 o1 o2 q1 c1 c2
                    go_wp2
                    go_loopw [175] (fun i wr => ∃ j : Nat, j ≤ N ∧ i = .int .i64 j ∧ ∃ bb : Nat → Bool, Hid (wr.rowIs mb 4 N (boolV bb)) ∧ Hid (∀ t, t < j → bb t = alw s pl ql zp zo I k t) ∧ Hid (Below w3.heap.size w3 wr)) (fun i _ => N - (intOf i).toNat)
                    case atStart => exact ⟨0, Nat.zero_le _, rfl, _, HR4, fun t ht => absurd ht (by omega), HW4⟩
                    case round =>
                      clear HR4 HW4 i4 HB4
                      obtain ⟨j, hj, rfl, bb, HR, HBB, HW⟩ := hrel
                      by_cases hjl : j < N
                      · have hjli : (j : Int) < (N : Int) := by omega
                        obtain ⟨hB5, n0, n1⟩ := LX.out wr HW.out
                        have HB5 : Hid (Below w1.heap.size w1 wr) := hB5
                        obtain ⟨hS5, o0, o1, o2⟩ := HL.out wr hB5
                        obtain ⟨yy, hy, hcy⟩ := hS5.ids j hjl
                        have hia : ia = some yy := hy
                        subst hia
                        have hcy' : wr.cell? (yy.add j) = some (.string (I j)) := hcy
                        have m0 := HR.out.cell hjl
                        have m1 := HR.out.frozen j
                        clear hS5 hcy hB5
                        go_wp2_with fail
                        refine Calls.mono (HCP.out wr _ HB5.out) ?_
                        rintro e w5 ⟨rfl, rfl⟩
                        have fin : ∀ (v : Bool) (W : World), Below w5.heap.size w5 W → v = alw s pl ql zp zo I k j → (W.setCell ⟨mb, j, none⟩ (.bool v)).rowIs mb 4 N (boolV (upd bb j v)) ∧ (∀ t, t < j + 1 → upd bb j v t = alw s pl ql zp zo I k t) ∧ Below w3.heap.size w3 (W.setCell ⟨mb, j, none⟩ (.bool v)) := fun v W hW hv => by
                          refine ⟨((rowIs_below HR.out hW).set j _).congr (fun t ht => ?_), fun t ht => ?_, (HW.out.trans (hW.mono HW.out.size)).setCell (Nat.le_of_eq hmb) _⟩
                          · by_cases e : t = j
                            · subst e; simp [boolV, upd_same]
                            · simp [boolV, e, upd_other _ _ e]
                          · by_cases e : t = j
                            · subst e; rw [upd_same]; exact hv
                            · rw [upd_other _ _ e]; exact HBB.out t (by omega)
                        have FIN : Hid _ := fin
                        clear fin
                        cases hbp : inStr (pick s (zp k)) (I j) (pl k) with
                        | false =>
                          obtain ⟨f1, f2, f3⟩ := FIN.out false w5 (Below.refl _ _) (by simp [alw, hbp])
                          have F1 : Hid _ := f1
                          have F3 : Hid _ := f3
                          clear f1 f3
                          go_wp2
                          refine ⟨⟨j + 1, by omega, by go_num, _, F1, f2, F3⟩, ?_⟩
                          simp [intOf]; omega
                        | true =>
                          go_wp2_with fail
                          refine Calls.mono (HHAS.out w5 _ HB5.out) ?_
                          rintro e w6 ⟨rfl, hb6⟩
                          rw [HMEM.out j hjl]
                          have HB6 : Hid (Below w1.heap.size w1 w6) := HB5.out.trans (hb6.mono HB5.out.size)
                          have n1' : w6.cell? ⟨pb, 1, none⟩ = some (.slice (some ⟨y, 0, none⟩) (ql k) (ql k)) := (hb6.cell (cell_lt n1)).trans n1
                          have m0' := (rowIs_below HR.out hb6).cell hjl
                          have m1' := (rowIs_below HR.out hb6).frozen j
                          have HW6 : Hid (Below w5.heap.size w5 w6) := hb6
                          clear n0 n1 o0 o1 o2 hcy' m0 m1 hb6
                          go_wp2_with fail
                          refine Calls.mono (HCO.out w6 _ HB6.out) ?_
                          rintro e w7 ⟨rfl, rfl⟩
                          obtain ⟨v, hv⟩ : ∃ v, inStr (pick s (zo k)) (I j) (ql k) = v := ⟨_, rfl⟩
                          rw [hv]
                          obtain ⟨f1, f2, f3⟩ := FIN.out v w7 HW6.out (by simp [alw, hbp, hv])
                          have F1 : Hid _ := f1
                          have F3 : Hid _ := f3
                          clear f1 f3 hv hbp
                          go_wp2
                          refine ⟨⟨j + 1, by omega, by go_num, _, F1, f2, F3⟩, ?_⟩
                          simp [intOf]; omega
                      · obtain rfl : N = j := by omega
                        have hb35 := HW2.out.trans ((HW3.out.trans (HW.out.mono HW3.out.size)).mono HW2.out.size)
                        have hT5 := HT.out.new hb35
                        obtain ⟨hB5, _, _⟩ := LX.out wr HW.out
                        obtain ⟨av', w8, e1, r1, r2, r3, r4, r5, g', c', hv'⟩ := hT5.allow (.slice (some ⟨mb, 0, none⟩) N N) rfl (by have := HLN.out; omega)
                        obtain ⟨L8, hL8⟩ : ∃ L8, als.length + 1 = L8 := ⟨_, rfl⟩
                        rw [hL8] at hv'
                        subst hv'
                        have tA := hT5.cell.2.2.2.1
                        have tB := (hT5.new ((Below.refl _ _).alloc (Nat.le_refl _) (.cells #[.slice (some ⟨mb, 0, none⟩) N N] 32))).cell.2.2.2.1
                        have hAR : ∀ q, q < k + 1 → ∃ b, (als ++ [.slice (some ⟨mb, 0, none⟩) N N])[q]? = some (.slice (some ⟨b, 0, none⟩) N N) ∧ (w8.setCell ⟨T, 6, none⟩ (.slice (some ⟨g', 0, none⟩) L8 c')).rowIs b 4 N (boolV (alw s pl ql zp zo I q)) := fun q hq => by
                          by_cases e : q = k
                          · subst e
                            refine ⟨mb, ?_, r5 _ _ _ _ (HR.out.congr (fun t ht => by simp only [boolV]; rw [HBB.out t ht])) (by decide) (cells_ne (rowIs_block HR.out) hT5.tb (by decide))⟩
                            rw [List.getElem?_append_right (by rw [HLN.out]; exact Nat.le_refl _), HLN.out]
                            simp
                          · obtain ⟨b, h1, h2⟩ := HAR.out q (by omega)
                            have h2' := rowIs_below h2 hb35
                            refine ⟨b, ?_, r5 _ _ _ _ h2' (by decide) (cells_ne (rowIs_block h2') hT5.tb (by decide))⟩
                            rw [List.getElem?_append_left (by rw [HLN.out]; omega)]
                            exact h1
                        have R1 : Hid _ := r1
                        have R2 : Hid _ := hB5.trans r2
                        have HAR' : Hid _ := hAR
                        have HLN' : Hid ((als ++ [Value.slice (some ⟨mb, 0, none⟩) N N]).length = k + 1) := by
                          have := HLN.out
                          show _ = _
                          simp [this]
                        clear hT5 r1 r2 r5 hAR hb35 hL8 hB5
                        go_wp2_with (at_builtin; refine wpList_app rfl (.tmp 201) (.tmp 203) 38 rfl _ _ _ _ rfl rfl e1 ?_)
                        refine ⟨⟨k + 1, by omega, by go_num, _, _, R1, HLN', HAR', R2⟩, ?_⟩
                        simp [intOf]; omega
                  · obtain rfl : lp = k := by omega
                    have hT := HT.out
                    obtain ⟨a8, c8, hav, _, _⟩ := hT.al.shape
                    rw [HLN.out] at hav
                    subst hav
                    obtain ⟨hRl, hRX⟩ := HRES.out
                    have hR := hRX wr HB.out
                    have HRW : Hid (wr.heap[w.heap.size + 1]? = some (.cells #[.string ⟨#[]⟩, .slice none 0 0, .slice none 0 0, .slice none 0 0, .slice none 0 0, .slice none 0 0, .slice none 0 0] 67 (0, 0))) := hR
                    have rc : ∀ i, i < 7 → wr.frozen? ⟨w.heap.size + 1, i, none⟩ = false ∧ ∃ z, wr.cell? ⟨w.heap.size + 1, i, none⟩ = some z := fun i hi => by
                      refine ⟨by simp [World.frozen?, hR], ?_⟩
                      rcases i with _ | _ | _ | _ | _ | _ | _ | i
                      all_goals first | exact absurd hi (by omega) | exact ⟨_, by simp [World.cell?, hR]; rfl⟩
                    obtain ⟨f0, z0, y0⟩ := rc 0 (by omega)
                    obtain ⟨f1, z1, y1⟩ := rc 1 (by omega)
                    obtain ⟨f2, z2, y2⟩ := rc 2 (by omega)
                    obtain ⟨f3, z3, y3⟩ := rc 3 (by omega)
                    obtain ⟨f4, z4, y4⟩ := rc 4 (by omega)
                    obtain ⟨f5, z5, y5⟩ := rc 5 (by omega)
                    obtain ⟨f6, z6, y6⟩ := rc 6 (by omega)
                    have tb := hT.tb
                    have t0 : wr.cell? ⟨T, 0, none⟩ = some (.string nm) := by simp [World.cell?, tb]
                    have t1 : wr.cell? ⟨T, 1, none⟩ = some (.slice (some ⟨m, 0, none⟩) lm lm) := by simp [World.cell?, tb]
                    have t2 : wr.cell? ⟨T, 2, none⟩ = some (.slice (some ⟨p, 0, none⟩) la la) := by simp [World.cell?, tb]
                    obtain ⟨t3, t4, t5, t6, _⟩ := hT.cell
                    clear rc tb hT hRX hR hRl
                    go_wp2
                    refine bodyPost_ret (results_cell_row rfl _ _ (w.heap.size + 1) 67 _ (0, 0) _ rfl (set7 _ _ _ _ _ _ _ _ _ _ _ _ _ _ _ _ _ HRW.out) Tryf.underlying67 rfl (by kernel_rfl)) rfl ?_
                    have hF := foot7 wr (w.heap.size + 1) (.string nm) (.slice (some ⟨m, 0, none⟩) lm lm) (.slice (some ⟨p, 0, none⟩) la la) (.slice (some ⟨G1, 0, none⟩) N N) (.slice (some ⟨G2, 0, none⟩) N N) (.slice (some ⟨Mb, 0, none⟩) N N) (.slice a8 lp c8)
                    have hO := tgt_out HT.out HLN.out HRES.out.1 (fun b n f hb => cells_ne (rowIs_block hb) HRW.out (by decide)) hF HAR.out
                    rw [HX.out] at hO
                    have hBw : Below w.heap.size w wr := HB1.out.trans (HB.out.mono HB1.out.size)
                    exact ⟨_, _, _, _, _, _, _, _, _, rfl, hO, ((((((hBw.setCell (Nat.le_succ _) _).setCell (Nat.le_succ _) _).setCell (Nat.le_succ _) _).setCell (Nat.le_succ _) _).setCell (Nat.le_succ _) _).setCell (Nat.le_succ _) _).setCell (Nat.le_succ _) _⟩
end Go.Proofs.Qxb6605818aFmt
