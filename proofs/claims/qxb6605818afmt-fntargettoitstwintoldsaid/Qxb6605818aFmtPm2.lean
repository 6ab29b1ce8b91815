import Derived.Test.Qxb6605818aFmtPm1
import Derived.Test.Qxb6605818aFmtDef
import Derived.Deep.DeepCutAuto
import Derived.Deep.CutRange
namespace Go.Proofs.Qxb6605818aFmt
open Go.RowKit Go.Maps
set_option linter.unusedVariables false

def bakf (Y : Nat → List Nat) (j t : Nat) (p : Nat × Nat) : Nat := gotf Y j t (p.2, p.1)
theorem bakf_zero (Y : Nat → List Nat) : bakf Y 0 0 = fun _ => 0 := by
  funext p
  unfold bakf
  rw [gotf_zero]
theorem bakf_end (Y : Nat → List Nat) (j : Nat) : bakf Y j (Y j).length = bakf Y (j + 1) 0 := by
  funext p
  unfold bakf
  rw [gotf_end]
theorem bakf_step (Y : Nat → List Nat) (j t : Nat) (h : t < (Y j).length) : bakf Y j (t + 1) = upd (bakf Y j t) ((Y j).getD t 0, j) (bakf Y j t ((Y j).getD t 0, j) + 1) := by
  funext p
  unfold bakf
  rw [gotf_step Y j t h]
  by_cases e : p = ((Y j).getD t 0, j)
  · subst e
    rw [upd_same, upd_same]
  · rw [upd_other _ _ e, upd_other]
    intro h
    apply e
    cases p
    simp only [Prod.mk.injEq] at h ⊢
    exact ⟨h.2, h.1⟩

theorem makeMap49 (w : World) : (Instr.makeMap 49 none).run Tryf.prog w = .ok (.map (some w.heap.size)) (w.alloc (.map #[] 0)) := by
  simp [Instr.makeMap, Result.andThen]

set_option maxRecDepth 100000 in
set_option maxHeartbeats 40000000 in
theorem pairsMatch_any (G1 G2 wb N T nw : Nat) (vs1 vs2 : Nat → Value) (X Y : Nat → List Nat) (W : Nat × Nat → Nat) (hw : Nat × Nat → Bool) (w : World) (hN : N ≤ 4096) (hT : T ≤ 100000) (hX : ∀ i, i < N → ∀ j ∈ X i, j < N) (hY : ∀ i, i < N → ∀ j ∈ Y i, j < N) (tX : tot X N = T) (tY : tot Y N = T) (hc : ∀ i, i < N → ∀ j ∈ X i, (X i).count j = W (i, j) ∧ (Y j).count i = W (i, j)) (hWb : ∀ p, W p ≤ 1000000)
    (r1 : w.rowIs G1 23 N vs1) (n1 : ∀ i, i < N → ∃ a c, vs1 i = .slice a (X i).length c ∧ Sl w a (X i).length (fun j => .int .i64 ((X i).getD j 0 : Nat))) (r2 : w.rowIs G2 23 N vs2) (n2 : ∀ i, i < N → ∃ a c, vs2 i = .slice a (Y i).length c ∧ Sl w a (Y i).length (fun j => .int .i64 ((Y i).getD j 0 : Nat))) (hm : MapP w wb nw W hw) :
    Calls Tryf.prog 15 #[.slice (some ⟨G1, 0, none⟩) N N, .slice (some ⟨G2, 0, none⟩) N N, .map (some wb), .int .i64 (T : Nat)] w fun e w' => e = .returned (.bool true) ∧ Below w.heap.size w w' := by
  have HL : Hid (∀ Z, Below w.heap.size w Z → (∀ i, i < N → Z.cell? ⟨G1, i, none⟩ = some (vs1 i) ∧ Z.cell? ⟨G2, i, none⟩ = some (vs2 i)) ∧ MapP Z wb nw W hw) := fun Z hZ => ⟨fun i hi => ⟨(rowIs_below r1 hZ).cell hi, (rowIs_below r2 hZ).cell hi⟩, hm.kept (S := fun _ => False) (Foot.of_below hZ) id⟩
  have HN1 : Hid (∀ i, i < N → ∃ a c, vs1 i = .slice a (X i).length c ∧ ∀ Z, Below w.heap.size w Z → Sl Z a (X i).length (fun j => .int .i64 ((X i).getD j 0 : Nat))) := fun i hi => by
    obtain ⟨a, c, h1, h2⟩ := n1 i hi
    exact ⟨a, c, h1, fun Z hZ => h2.below hZ⟩
  have HN2 : Hid (∀ i, i < N → ∃ a c, vs2 i = .slice a (Y i).length c ∧ ∀ Z, Below w.heap.size w Z → Sl Z a (Y i).length (fun j => .int .i64 ((Y i).getD j 0 : Nat))) := fun i hi => by
    obtain ⟨a, c, h1, h2⟩ := n2 i hi
    exact ⟨a, c, h1, fun Z hZ => h2.below hZ⟩
  have HX : Hid (∀ i, i < N → ∀ j ∈ X i, j < N) := hX
  have HY : Hid (∀ i, i < N → ∀ j ∈ Y i, j < N) := hY
  have HTX : Hid (tot X N = T) := tX
  have HTY : Hid (tot Y N = T) := tY
  have HC : Hid (∀ i, i < N → ∀ j ∈ X i, (X i).count j = W (i, j) ∧ (Y j).count i = W (i, j)) := hc
  have HWB : Hid (∀ p, W p ≤ 1000000) := hWb
  have hNi : (N : Int) ≤ 4096 := by omega
  have hTi : (T : Int) ≤ 100000 := by omega
  have u49 := Go.Proofs.Qxb6605818aFmt.u49
  have hmm := makeMap49
  obtain ⟨gb, hgb⟩ : ∃ gb, w.heap.size = gb := ⟨_, rfl⟩
  obtain ⟨w1, hw1⟩ : ∃ w1, (w.alloc (.map #[] 0)).alloc (.map #[] 0) = w1 := ⟨_, rfl⟩
  have HB1 : Hid (Below w.heap.size w w1) := by rw [← hw1]; exact ((Below.refl _ _).alloc (Nat.le_refl _) _).alloc (by simp) _
  have HG1 : Hid (MapP w1 gb 0 (fun _ => 0) (fun _ => false)) := by
    have h := MapK.made (kv := kp) (dom := domp) (KT := 50) (z := .int .i64 0) w kp_key
    rw [hgb] at h
    rw [← hw1]
    exact h.kept (S := fun _ => False) (Foot.alloc _ _ _) id
  have HK1 : Hid (MapP w1 (gb + 1) 0 (fun _ => 0) (fun _ => false)) := by
    have h := MapK.made (kv := kp) (dom := domp) (KT := 50) (z := .int .i64 0) (w.alloc (.map #[] 0)) kp_key
    have e : (w.alloc (.map #[] 0)).heap.size = gb + 1 := by simp; omega
    rw [e] at h
    rw [← hw1]
    exact h
  have HGB : Hid (w.heap.size = gb) := hgb
  clear hX hY tX tY hc hWb r1 n1 r2 n2 hm
  go_enter Tryf.func15, Tryf.ntmps15
  go_wp2
  go_loopw [12, 14] (fun g i wr => ∃ k : Nat, k ≤ N ∧ i = .int .i64 k ∧ g = .int .i64 (tot X k : Nat) ∧ ∃ n hs n' hs', Hid (MapP wr gb n (gotf X k 0) hs) ∧ Hid (n ≤ tot X k) ∧ Hid (MapP wr (gb + 1) n' (fun _ => 0) hs') ∧ Hid (n' ≤ 0) ∧ Hid (Below w.heap.size w wr)) (fun _ i _ => N - (intOf i).toNat)
  case atStart => exact ⟨0, Nat.zero_le _, rfl, rfl, 0, _, 0, _, by rw [gotf_zero]; exact HG1, Nat.zero_le _, HK1, Nat.le_refl _, HB1⟩
  case round =>
    clear HG1 HK1 HB1
    obtain ⟨k, hk, rfl, rfl, n, hs, n', hs', HM, HNN, HO, HNO, HB⟩ := hrel
    have htk : tot X k ≤ T := by have := tot_mono X hk; rw [HTX.out] at this; exact this
    obtain ⟨S, hS⟩ : ∃ S, tot X k = S := ⟨_, rfl⟩
    have HS : Hid (tot X k = S) := hS
    rw [hS] at htk
    simp only [hS]
    have hSi : (S : Int) ≤ 100000 := by omega
    clear hS
    by_cases hlt : k < N
    · have hlti : (k : Int) < (N : Int) := by omega
      obtain ⟨a, c, hv, hsl⟩ := HN1.out k hlt
      have gk := ((HL.out wr HB.out).1 k hlt).1
      rw [hv] at gk
      have HSL : Hid (∀ Z, Below w.heap.size w Z → Sl Z a (X k).length (fun j => .int .i64 ((X k).getD j 0 : Nat))) := hsl
      obtain ⟨Lk, hLk⟩ : ∃ Lk, (X k).length = Lk := ⟨_, rfl⟩
      have HLK : Hid ((X k).length = Lk) := hLk
      have hrow : S + Lk ≤ T := by have := tot_row X hlt; rw [HS.out, hLk, HTX.out] at this; exact this
      rw [hLk] at gk
      have hLi : (Lk : Int) ≤ 100000 := by omega
      have hSL : (S : Int) + (Lk : Int) ≤ 100000 := by omega
      clear hv hsl hLk
      go_wp2
      go_loopw [12, 38] (fun g i wr => ∃ t : Nat, t ≤ Lk ∧ i = .int .i64 t ∧ g = .int .i64 ((S + t : Nat) : Int) ∧ ∃ n hs n' hs', Hid (MapP wr gb n (gotf X k t) hs) ∧ Hid (n ≤ S + t) ∧ Hid (MapP wr (gb + 1) n' (fun _ => 0) hs') ∧ Hid (n' ≤ 0) ∧ Hid (Below w.heap.size w wr)) (fun _ i _ => Lk - (intOf i).toNat)
      case atStart => exact ⟨0, Nat.zero_le _, rfl, rfl, n, hs, n', hs', HM, by rw [← HS.out]; exact HNN.out, HO, HNO, HB⟩
      case round =>
        clear HM HNN HO HNO HB gk
        obtain ⟨t, ht, rfl, rfl, n, hs, n', hs', HM, HNN, HO, HNO, HB⟩ := hrel
        by_cases htl : t < Lk
        · have hti : (t : Int) < (Lk : Int) := by omega
          have htl' : t < (X k).length := by rw [HLK.out]; exact htl
          obtain ⟨y, hy, hcy⟩ := HSL.out wr HB.out t htl'
          subst hy
          obtain ⟨x, hx⟩ : ∃ x, (X k).getD t 0 = x := ⟨_, rfl⟩
          have hmem : x ∈ X k := by
            rw [← hx]
            have e : (X k).getD t 0 = (X k)[t] := by simp [List.getD, htl']
            rw [e]
            exact List.getElem_mem htl'
          have hxN := HX.out k hlt x hmem
          have hcx : wr.cell? (y.add t) = some (.int .i64 (x : Nat)) := by rw [hcy]; simp only [hx]
          clear hcy
          have HX0 : Hid ((X k).getD t 0 = x) := hx
          have hxi : (x : Int) < (N : Int) := by omega
          have hx0 : ¬ (x : Int) < 0 := by omega
          have hMd : MapP wr.drew gb n (gotf X k t) hs := HM.out.kept (S := fun _ => False) (Foot.refl _ _).drew id
          obtain ⟨st, w2, w3, e1, e2, e3, e4, ⟨hs2, e5⟩, e6⟩ := MapP.inc hMd (by have := HNN.out; omega) k x (by omega) (by omega) 1
          obtain ⟨C, hC⟩ : ∃ C, (gotf X k t) (k, x) = C := ⟨_, rfl⟩
          rw [hC] at e1 e2 e3 e4 e5
          have hCi : (C : Int) ≤ 100000 := by
            have := gotf_le X k t (k, x) hlt
            rw [HTX.out] at this
            have h2 : gotf X k t (k, x) = C := hC
            omega
          have e4 : (Instr.entryStore 49 (.map (some gb)) (.int .i64 (st : Nat)) (.int .i64 ((C : Int) + 1))).run Tryf.prog w2 = .ok () w3 := e4
          have HM3 : Hid (MapP w3 gb (n + 1) (gotf X k (t + 1)) hs2) := by
            have h2 : gotf X k t (k, x) = C := hC
            have : (gotf X k (t + 1)) = upd (gotf X k t) (k, x) (C + 1) := by
              have := gotf_step X k t htl'
              rw [HX0.out] at this
              exact this.trans (by rw [show (gotf X k t) (k, x) = C from hC])
            rw [this]
            exact e5
          have hne : (gb + 1) ≠ gb := by omega
          have HO3 : Hid (MapP w3 (gb + 1) n' (fun _ => 0) hs') := (HO.out.kept (S := fun _ => False) (w' := wr.drew) (Foot.refl _ _).drew id).kept e6 hne
          have HB3 : Hid (Below w.heap.size w w3) := HB.out.drew.trans (e6.below HB.out.drew.size (fun k e => by omega))
          obtain ⟨Z, hZ⟩ : ∃ Z, S + t = Z := ⟨_, rfl⟩
          have HZ : Hid (S + t = Z) := hZ
          have hZi : (Z : Int) ≤ 99999 := by omega
          rw [hZ]
          clear hSL hrow hZ
          clear hMd e5 e6 hx hmem hC hne htl'
          go_wp2_with fail
          go_region
          all_goals
            go_wp2
            refine ⟨⟨t + 1, by omega, by go_num, ?_, n + 1, _, n', _, HM3, ?_, HO3, HNO, HB3⟩, ?_⟩
            · have hz := HZ.out
              go_num
            · have h1 := HNN.out
              exact (show n + 1 ≤ S + (t + 1) by omega)
            · simp [intOf]; omega
        · obtain rfl : Lk = t := by omega
          have HM2 : Hid (MapP wr gb n (gotf X (k + 1) 0) hs) := by
            have h := HM.out
            have e : (gotf X k (X k).length) = (gotf X (k + 1) 0) := by
              exact gotf_end X k
            rw [← HLK.out, e] at h
            exact h
          clear HM
          go_wp2
          refine ⟨⟨k + 1, by omega, by go_num, ?_, n, hs, n', hs', HM2, ?_, HO, HNO, HB⟩, ?_⟩
          · rw [show tot X (k + 1) = S + Lk by rw [tot, HS.out, HLK.out]]
          · have h1 := HNN.out
            exact (show n ≤ tot X (k + 1) by rw [show tot X (k + 1) = S + Lk by rw [tot, HS.out, HLK.out]]; exact h1)
          · simp [intOf]; omega
    · obtain rfl : N = k := by omega
      obtain rfl : T = S := HTX.out.symm.trans HS.out
      have HNM : Hid (n ≤ T) := by have h := HNN.out; rw [HTX.out] at h; exact h
      go_wp2
      go_loopw [13, 17] (fun g i wr => ∃ k : Nat, k ≤ N ∧ i = .int .i64 k ∧ g = .int .i64 (tot Y k : Nat) ∧ ∃ n hs n' hs', Hid (MapP wr (gb + 1) n (bakf Y k 0) hs) ∧ Hid (n ≤ tot Y k) ∧ Hid (MapP wr gb n' (gotf X N 0) hs') ∧ Hid (n' ≤ T) ∧ Hid (Below w.heap.size w wr)) (fun _ i _ => N - (intOf i).toNat)
      case atStart => exact ⟨0, Nat.zero_le _, rfl, rfl, n', _, n, _, by rw [bakf_zero]; exact HO, HNO, HM, HNM, HB⟩
      case round =>
        clear HM HO HNN HNO HNM HB
        obtain ⟨k, hk, rfl, rfl, n, hs, n', hs', HM, HNN, HO, HNO, HB⟩ := hrel
        have htk : tot Y k ≤ T := by have := tot_mono Y hk; rw [HTY.out] at this; exact this
        obtain ⟨S, hS⟩ : ∃ S, tot Y k = S := ⟨_, rfl⟩
        have HS : Hid (tot Y k = S) := hS
        rw [hS] at htk
        simp only [hS]
        have hSi : (S : Int) ≤ 100000 := by omega
        clear hS
        by_cases hlt : k < N
        · have hlti : (k : Int) < (N : Int) := by omega
          obtain ⟨a, c, hv, hsl⟩ := HN2.out k hlt
          have gk := ((HL.out wr HB.out).1 k hlt).2
          rw [hv] at gk
          have HSL : Hid (∀ Z, Below w.heap.size w Z → Sl Z a (Y k).length (fun j => .int .i64 ((Y k).getD j 0 : Nat))) := hsl
          obtain ⟨Lk, hLk⟩ : ∃ Lk, (Y k).length = Lk := ⟨_, rfl⟩
          have HLK : Hid ((Y k).length = Lk) := hLk
          have hrow : S + Lk ≤ T := by have := tot_row Y hlt; rw [HS.out, hLk, HTY.out] at this; exact this
          rw [hLk] at gk
          have hLi : (Lk : Int) ≤ 100000 := by omega
          have hSL : (S : Int) + (Lk : Int) ≤ 100000 := by omega
          clear hv hsl hLk
          go_wp2
          go_loopw [13, 71] (fun g i wr => ∃ t : Nat, t ≤ Lk ∧ i = .int .i64 t ∧ g = .int .i64 ((S + t : Nat) : Int) ∧ ∃ n hs n' hs', Hid (MapP wr (gb + 1) n (bakf Y k t) hs) ∧ Hid (n ≤ S + t) ∧ Hid (MapP wr gb n' (gotf X N 0) hs') ∧ Hid (n' ≤ T) ∧ Hid (Below w.heap.size w wr)) (fun _ i _ => Lk - (intOf i).toNat)
          case atStart => exact ⟨0, Nat.zero_le _, rfl, rfl, n, hs, n', hs', HM, by rw [← HS.out]; exact HNN.out, HO, HNO, HB⟩
          case round =>
            clear HM HNN HO HNO HB gk
            obtain ⟨t, ht, rfl, rfl, n, hs, n', hs', HM, HNN, HO, HNO, HB⟩ := hrel
            by_cases htl : t < Lk
            · have hti : (t : Int) < (Lk : Int) := by omega
              have htl' : t < (Y k).length := by rw [HLK.out]; exact htl
              obtain ⟨y, hy, hcy⟩ := HSL.out wr HB.out t htl'
              subst hy
              obtain ⟨x, hx⟩ : ∃ x, (Y k).getD t 0 = x := ⟨_, rfl⟩
              have hmem : x ∈ Y k := by
                rw [← hx]
                have e : (Y k).getD t 0 = (Y k)[t] := by simp [List.getD, htl']
                rw [e]
                exact List.getElem_mem htl'
              have hxN := HY.out k hlt x hmem
              have hcx : wr.cell? (y.add t) = some (.int .i64 (x : Nat)) := by rw [hcy]; simp only [hx]
              clear hcy
              have HX0 : Hid ((Y k).getD t 0 = x) := hx
              have hxi : (x : Int) < (N : Int) := by omega
              have hx0 : ¬ (x : Int) < 0 := by omega
              have hMd : MapP wr.drew (gb + 1) n (bakf Y k t) hs := HM.out.kept (S := fun _ => False) (Foot.refl _ _).drew id
              obtain ⟨st, w2, w3, e1, e2, e3, e4, ⟨hs2, e5⟩, e6⟩ := MapP.inc hMd (by have := HNN.out; omega) x k (by omega) (by omega) 1
              obtain ⟨C, hC⟩ : ∃ C, (bakf Y k t) (x, k) = C := ⟨_, rfl⟩
              rw [hC] at e1 e2 e3 e4 e5
              have hCi : (C : Int) ≤ 100000 := by
                have := gotf_le Y k t (k, x) hlt
                rw [HTY.out] at this
                have h2 : gotf Y k t (k, x) = C := hC
                omega
              have e4 : (Instr.entryStore 49 (.map (some (gb + 1))) (.int .i64 (st : Nat)) (.int .i64 ((C : Int) + 1))).run Tryf.prog w2 = .ok () w3 := e4
              have HM3 : Hid (MapP w3 (gb + 1) (n + 1) (bakf Y k (t + 1)) hs2) := by
                have h2 : gotf Y k t (k, x) = C := hC
                have : (bakf Y k (t + 1)) = upd (bakf Y k t) (x, k) (C + 1) := by
                  have := bakf_step Y k t htl'
                  rw [HX0.out] at this
                  exact this.trans (by rw [show (bakf Y k t) (x, k) = C from hC])
                rw [this]
                exact e5
              have hne : gb ≠ (gb + 1) := by omega
              have HO3 : Hid (MapP w3 gb n' (gotf X N 0) hs') := (HO.out.kept (S := fun _ => False) (w' := wr.drew) (Foot.refl _ _).drew id).kept e6 hne
              have HB3 : Hid (Below w.heap.size w w3) := HB.out.drew.trans (e6.below HB.out.drew.size (fun k e => by omega))
              obtain ⟨Z, hZ⟩ : ∃ Z, S + t = Z := ⟨_, rfl⟩
              have HZ : Hid (S + t = Z) := hZ
              have hZi : (Z : Int) ≤ 99999 := by omega
              rw [hZ]
              clear hSL hrow hZ
              clear hMd e5 e6 hx hmem hC hne htl'
              go_wp2_with fail
              go_region
              all_goals
                go_wp2
                refine ⟨⟨t + 1, by omega, by go_num, ?_, n + 1, _, n', _, HM3, ?_, HO3, HNO, HB3⟩, ?_⟩
                · have hz := HZ.out
                  go_num
                · have h1 := HNN.out
                  exact (show n + 1 ≤ S + (t + 1) by omega)
                · simp [intOf]; omega
            · obtain rfl : Lk = t := by omega
              have HM2 : Hid (MapP wr (gb + 1) n (bakf Y (k + 1) 0) hs) := by
                have h := HM.out
                have e : (bakf Y k (Y k).length) = (bakf Y (k + 1) 0) := by
                  exact bakf_end Y k
                rw [← HLK.out, e] at h
                exact h
              clear HM
              go_wp2
              refine ⟨⟨k + 1, by omega, by go_num, ?_, n, hs, n', hs', HM2, ?_, HO, HNO, HB⟩, ?_⟩
              · rw [show tot Y (k + 1) = S + Lk by rw [tot, HS.out, HLK.out]]
              · have h1 := HNN.out
                exact (show n ≤ tot Y (k + 1) by rw [show tot Y (k + 1) = S + Lk by rw [tot, HS.out, HLK.out]]; exact h1)
              · simp [intOf]; omega
        · obtain rfl : N = k := by omega
          obtain rfl : T = S := HTY.out.symm.trans HS.out
          go_wp2
          obtain ⟨w5, hw5⟩ : ∃ w5, wr = w5 := ⟨_, rfl⟩
          rw [hw5] at HB HM HO ⊢
          have HQ : Hid (∀ Z, Below w5.heap.size w5 Z → Below w.heap.size w Z ∧ MapP Z gb n' (gotf X N 0) hs' ∧ MapP Z (gb + 1) n (bakf Y N 0) hs) := fun Z hZ => ⟨HB.out.trans (hZ.mono HB.out.size), HO.out.kept (S := fun _ => False) (Foot.of_below hZ) id, HM.out.kept (S := fun _ => False) (Foot.of_below hZ) id⟩
          clear hw5 HM HO HNN HNO HB
          go_loopw [20] (fun i wr => ∃ k : Nat, k ≤ N ∧ i = .int .i64 k ∧ Hid (Below w5.heap.size w5 wr)) (fun i _ => N - (intOf i).toNat)
          case atStart => exact ⟨0, Nat.zero_le _, rfl, Below.refl _ _⟩
          case round =>
            obtain ⟨k, hk, rfl, HB⟩ := hrel
            by_cases hlt : k < N
            · have hlti : (k : Int) < (N : Int) := by omega
              obtain ⟨a, c, hv, hsl⟩ := HN1.out k hlt
              have gk := ((HL.out wr (HQ.out wr HB.out).1).1 k hlt).1
              rw [hv] at gk
              have HSL : Hid (∀ Z, Below w.heap.size w Z → Sl Z a (X k).length (fun j => .int .i64 ((X k).getD j 0 : Nat))) := hsl
              obtain ⟨Lk, hLk⟩ : ∃ Lk, (X k).length = Lk := ⟨_, rfl⟩
              have HLK : Hid ((X k).length = Lk) := hLk
              have hrow : Lk ≤ T := by have := tot_row X hlt; rw [hLk, HTX.out] at this; omega
              rw [hLk] at gk
              have hLi : (Lk : Int) ≤ 100000 := by omega
              clear hv hsl hLk
              go_wp2
              go_loopw [111] (fun i wr => ∃ t : Nat, t ≤ Lk ∧ i = .int .i64 t ∧ Hid (Below w5.heap.size w5 wr)) (fun i _ => Lk - (intOf i).toNat)
              case atStart => exact ⟨0, Nat.zero_le _, rfl, HB⟩
              case round =>
                clear HB gk
                obtain ⟨t, ht, rfl, HB⟩ := hrel
                by_cases htl : t < Lk
                · have hti : (t : Int) < (Lk : Int) := by omega
                  have htl' : t < (X k).length := by rw [HLK.out]; exact htl
                  obtain ⟨y, hy, hcy⟩ := HSL.out wr (HQ.out wr HB.out).1 t htl'
                  subst hy
                  obtain ⟨x, hx⟩ : ∃ x, (X k).getD t 0 = x := ⟨_, rfl⟩
                  have hmem : x ∈ X k := by
                    rw [← hx]
                    have e : (X k).getD t 0 = (X k)[t] := by simp [List.getD, htl']
                    rw [e]
                    exact List.getElem_mem htl'
                  have hxN := HX.out k hlt x hmem
                  have hcx : wr.cell? (y.add t) = some (.int .i64 (x : Nat)) := by rw [hcy]; simp only [hx]
                  obtain ⟨c1, c2⟩ := HC.out k hlt x hmem
                  obtain ⟨C, hC⟩ : ∃ C, W (k, x) = C := ⟨_, rfl⟩
                  have hCb : C ≤ 1000000 := by rw [← hC]; exact HWB.out _
                  have g1 : gotf X N 0 (k, x) = C := by unfold gotf; rw [if_pos hlt, ← hC]; exact c1
                  have g2 : bakf Y N 0 (k, x) = C := by unfold bakf gotf; rw [if_pos hxN, ← hC]; exact c2
                  clear hcy hx hmem c1 c2
                  obtain ⟨w2, hw2⟩ : ∃ w2, wr.alloc (.cells #[.int .i64 (k : Nat), .int .i64 (x : Nat)] 50) = w2 := ⟨_, rfl⟩
                  have hb2 : Below wr.heap.size wr w2 := by rw [← hw2]; exact (Below.refl _ _).alloc (Nat.le_refl _) _
                  have hblk : w2.heap[wr.heap.size]? = some (.cells #[.int .i64 (k : Nat), .int .i64 (x : Nat)] 50 (0, 0)) := by rw [← hw2]; exact heap_alloc_new _ _
                  obtain ⟨pb, hpb⟩ : ∃ pb, wr.heap.size = pb := ⟨_, rfl⟩
                  rw [hpb] at hblk
                  have HB2 : Hid (Below w5.heap.size w5 w2) := HB.out.trans (hb2.mono HB.out.size)
                  have LK : Hid (∀ Z, Below w2.heap.size w2 Z → Z.cell? ⟨pb, 0, none⟩ = some (.int .i64 (k : Nat)) ∧ Z.cell? ⟨pb, 1, none⟩ = some (.int .i64 (x : Nat)) ∧ (Instr.lookup 49 (.map (some gb)) (.agg #[.int .i64 (k : Nat), .int .i64 (x : Nat)]) false).run Tryf.prog Z = .ok (.int .i64 (C : Nat)) Z ∧ (Instr.lookup 49 (.map (some wb)) (.agg #[.int .i64 (k : Nat), .int .i64 (x : Nat)]) false).run Tryf.prog Z = .ok (.int .i64 (C : Nat)) Z ∧ (Instr.lookup 49 (.map (some (gb + 1))) (.agg #[.int .i64 (k : Nat), .int .i64 (x : Nat)]) false).run Tryf.prog Z = .ok (.int .i64 (C : Nat)) Z) := fun Z hZ => by
                    have hbZ : Z.heap[pb]? = some (.cells #[.int .i64 (k : Nat), .int .i64 (x : Nat)] 50 (0, 0)) := (hZ.block pb (block_lt hblk)).trans hblk
                    obtain ⟨b1, b2, b3⟩ := HQ.out Z (HB2.out.trans (hZ.mono HB2.out.size))
                    have hd : domp (k, x) := ⟨(show k ≤ 1000000 by omega), (show x ≤ 1000000 by omega)⟩
                    have l1 := b2.look keyed50 Go.Proofs.Qxb6605818aFmt.u49 (zero3 _) (k, x) hd
                    have l2 := b3.look keyed50 Go.Proofs.Qxb6605818aFmt.u49 (zero3 _) (k, x) hd
                    have l3 := (HL.out Z b1).2.look keyed50 Go.Proofs.Qxb6605818aFmt.u49 (zero3 _) (k, x) hd
                    unfold cntV at l1 l2 l3
                    rw [g1] at l1
                    rw [g2] at l2
                    rw [hC] at l3
                    exact ⟨by simp [World.cell?, hbZ], by simp [World.cell?, hbZ], l1, l3, l2⟩
                  clear hC g1 g2 hb2 hblk htl'
                  have D1 : Hid (Below w2.heap.size w2 w2.drew) := (Below.refl _ _).drew
                  have D2 : Hid (Below w2.heap.size w2 w2.drew.drew) := (Below.refl _ _).drew.drew
                  go_wp2_with fail
                  go_region_held3 (fun Z => Z.cell? ⟨pb, 0, none⟩ = some (.int .i64 (k : Nat)) ∧ Z.cell? ⟨pb, 1, none⟩ = some (.int .i64 (x : Nat)) ∧ (Instr.lookup 49 (.map (some gb)) (.agg #[.int .i64 (k : Nat), .int .i64 (x : Nat)]) false).run Tryf.prog Z = .ok (.int .i64 (C : Nat)) Z ∧ (Instr.lookup 49 (.map (some wb)) (.agg #[.int .i64 (k : Nat), .int .i64 (x : Nat)]) false).run Tryf.prog Z = .ok (.int .i64 (C : Nat)) Z ∧ (Instr.lookup 49 (.map (some (gb + 1))) (.agg #[.int .i64 (k : Nat), .int .i64 (x : Nat)]) false).run Tryf.prog Z = .ok (.int .i64 (C : Nat)) Z) (exact LK.out _ (Hid.out (by assumption))) (fail)
                  all_goals
                    have HBE : Hid (Below w5.heap.size w5 w2.drew) := HB2.out.drew
                    go_wp2
                    refine ⟨⟨t + 1, by omega, by go_num, HBE⟩, ?_⟩
                    simp [intOf]; omega
                · obtain rfl : Lk = t := by omega
                  go_wp2
                  refine ⟨⟨k + 1, by omega, by go_num, HB⟩, ?_⟩
                  simp [intOf]; omega
            · obtain rfl : N = k := by omega
              have HBE := (HQ.out wr HB.out).1
              go_wp2
              go_ret
              exact ⟨rfl, HBE⟩
end Go.Proofs.Qxb6605818aFmt
