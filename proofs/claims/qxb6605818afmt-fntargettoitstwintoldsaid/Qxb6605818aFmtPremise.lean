import Derived.Test.Qxb6605818aFmtClone2
namespace Go.Proofs.Qxb6605818aFmt
open Go.RowKit Go.Maps
set_option linter.unusedVariables false

/-- Index z names one of the first n that is marked. -/
def named (n : Nat) (b : Nat → Bool) (z : Int) : Bool := decide (0 ≤ z ∧ z < n) && b z.toNat

structure Premise (s : Nat → ByteArray) (n : Nat) (zm : Nat → Int) (lm : Nat) (za zb : Nat → Int) (la lb : Nat) (lp lo : Nat) (zp zo : Nat → Nat → Int) (pl ql : Nat → Nat) : Prop where
  dist : Distinct s n
  lab : la = lb
  lpo : lp = lo
  mIn : allIn n zm lm
  mDist : DistinctI zm lm
  ab : ∀ k, k < la → named n (fun i => inInt zm i lm) (za k) = true ∧ named n (fun i => inInt zm i lm) (zb k) = true
  po : ∀ q, q < lp → allIn n (zp q) (pl q) ∧ allIn n (zo q) (ql q)

set_option maxRecDepth 100000 in
set_option maxHeartbeats 2000000 in
theorem targetPremise_any (a0 a1 a2 a3 a7 a8 : Option Addr) (n c0 lm c1 la c2 lb c3 lp c7 lo c8 : Nat) (s : Nat → ByteArray) (zm za zb : Nat → Int) (pa qa : Nat → Option Addr) (pl pc ql qc : Nat → Nat) (zp zo : Nat → Nat → Int) (w : World)
    (b0 : n ≤ 4096) (b1 : lm ≤ 4096) (b2 : la ≤ 4096) (b3 : lb ≤ 4096) (b7 : lp ≤ 4096) (b8 : lo ≤ 4096) (hk : ∀ i, i < n → strKey (s i)) (hpl : ∀ i, i < lp → pl i ≤ 2000000) (hql : ∀ i, i < lo → ql i ≤ 2000000)
    (h0 : Sl w a0 n (strV s)) (h1 : Sl w a1 lm (intV zm)) (h2 : Sl w a2 la (intV za)) (h3 : Sl w a3 lb (intV zb)) (h7 : Rows2 w a7 lp pa pl pc zp) (h8 : Rows2 w a8 lo qa ql qc zo) :
    Calls Tryf.prog 7 #[.slice a0 n c0, .slice a1 lm c1, .slice a2 la c2, .slice a3 lb c3, .slice a1 lm c1, .slice a2 la c2, .slice a3 lb c3, .slice a7 lp c7, .slice a8 lo c8] w fun e w' => BoolIf e (Premise s n zm lm za zb la lb lp lo zp zo pl ql) ∧ Below w.heap.size w w' := by
  have HC18 : Hid (Calls Tryf.prog 18 #[.slice a0 n c0] w fun e w' => BoolIf e (Distinct s n) ∧ Below w.heap.size w w') := distinctNonEmpty_any a0 n c0 s w (by omega) h0 hk
  have H1 : Hid (Sl w a1 lm (intV zm)) := h1
  have H2 : Hid (Sl w a2 la (intV za)) := h2
  have H3 : Hid (Sl w a3 lb (intV zb)) := h3
  have H7 : Hid (Rows2 w a7 lp pa pl pc zp) := h7
  have H8 : Hid (Rows2 w a8 lo qa ql qc zo) := h8
  have HPL : Hid (∀ i, i < lp → pl i ≤ 2000000) := hpl
  have HQL : Hid (∀ i, i < lo → ql i ≤ 2000000) := hql
  have i0 : (n : Int) ≤ 4096 := by omega
  have i2 : (la : Int) ≤ 4096 := by omega
  have i3 : (lb : Int) ≤ 4096 := by omega
  have i7 : (lp : Int) ≤ 4096 := by omega
  have i8 : (lo : Int) ≤ 4096 := by omega
  have heq := eq_nil32
  have hes := eq_some32
  clear h0 h1 h2 h3 h7 h8 hk hpl hql
  go_enter Tryf.func7, Tryf.ntmps7
  go_wp2_with fail
  refine Calls.mono HC18.out ?_
  rintro e w1 ⟨⟨bd, rfl, hbd⟩, hB1⟩
  have HB1 : Hid (Below w.heap.size w w1) := hB1
  have HBD : Hid (bd = true → Distinct s n) := hbd
  clear hbd hB1
  cases bd
  · go_wp2
    go_ret
    exact ⟨⟨_, rfl, fun h => absurd h (by simp)⟩, HB1.out⟩
  have HDI : Hid (Distinct s n) := HBD.out rfl
  clear HBD
  by_cases q1 : la = lb
  · by_cases q2 : lp = lo
    · subst q1
      subst q2
      clear i3 i8 b3 b8
      have HC11 : Hid (∀ w', Below w.heap.size w w' → Calls Tryf.prog 11 #[.int .i64 n, .slice a1 lm c1] w' fun e w'' => MaskOut w'.heap.size n zm lm e w'' ∧ Below w'.heap.size w' w'') := fun w' hb => memberMask_any n a1 lm c1 zm w' (by omega) (by omega) (H1.out.below hb)
      go_wp2_with fail
      refine Calls.mono (HC11.out w1 HB1.out) ?_
      rintro e w2 ⟨hm1, hB2⟩
      have HB2 : Hid (Below w.heap.size w w2) := HB1.out.trans (hB2.mono HB1.out.size)
      rcases hm1 with ⟨rfl, hbad⟩ | ⟨rfl, hrow, hIn, hDi⟩
      · clear hB2 hbad
        go_wp2_with fail
        refine Calls.mono (HC11.out w2 HB2.out) ?_
        rintro e w3 ⟨hm2, hB3⟩
        have HB3 : Hid (Below w.heap.size w w3) := HB2.out.trans (hB3.mono HB2.out.size)
        rcases hm2 with ⟨rfl, hbad⟩ | ⟨rfl, hrow, hIn, hDi⟩
        · clear hB3 hbad
          go_wp2
          go_ret
          exact ⟨⟨_, rfl, fun h => absurd h (by simp)⟩, HB3.out⟩
        · clear hB3 hrow hIn hDi
          go_wp2
          go_ret
          exact ⟨⟨_, rfl, fun h => absurd h (by simp)⟩, HB3.out⟩
      have HIn : Hid (allIn n zm lm) := hIn
      have HDi : Hid (DistinctI zm lm) := hDi
      have HRW : Hid (w2.rowIs w1.heap.size 4 n (boolV fun i => inInt zm i lm)) := hrow
      obtain ⟨m1, hm1⟩ : ∃ m1, w1.heap.size = m1 := ⟨_, rfl⟩
      rw [hm1] at HRW ⊢
      clear hB2 hrow hIn hDi hm1
      go_wp2_with fail
      refine Calls.mono (HC11.out w2 HB2.out) ?_
      rintro e w3 ⟨hm2, hB3⟩
      have HB3 : Hid (Below w.heap.size w w3) := HB2.out.trans (hB3.mono HB2.out.size)
      rcases hm2 with ⟨rfl, hbad⟩ | ⟨rfl, hrow, hIn, hDi⟩
      · clear hB3 hbad
        go_wp2
        go_ret
        exact ⟨⟨_, rfl, fun h => absurd h (by simp)⟩, HB3.out⟩
      have HM1 : Hid (Sl w3 (some ⟨m1, 0, none⟩) n (boolV fun i => inInt zm i lm)) := (Sl.row HRW.out).below hB3
      have HM2 : Hid (Sl w3 (some ⟨w2.heap.size, 0, none⟩) n (boolV fun i => inInt zm i lm)) := Sl.row hrow
      obtain ⟨m2, hm2⟩ : ∃ m2, w2.heap.size = m2 := ⟨_, rfl⟩
      rw [hm2] at HM2 ⊢
      clear hB3 hrow hIn hDi hm2 HRW
      have H2' : Hid (Sl w3 a2 la (intV za)) := H2.out.below HB3.out
      have H3' : Hid (Sl w3 a3 la (intV zb)) := H3.out.below HB3.out
      have H7' : Hid (Rows2 w3 a7 lp pa pl pc zp) := H7.out.below HB3.out
      have H8' : Hid (Rows2 w3 a8 lp qa ql qc zo) := H8.out.below HB3.out
      have HIM1 : Hid (∀ z, Calls Tryf.prog 19 #[.slice (some ⟨m1, 0, none⟩) n n, .int .i64 z] w3 fun e w' => e = .returned (.bool (named n (fun i => inInt zm i lm) z)) ∧ w' = w3) := fun z => inMask_any _ n n _ z w3 (by omega) HM1.out
      have HIM2 : Hid (∀ z, Calls Tryf.prog 19 #[.slice (some ⟨m2, 0, none⟩) n n, .int .i64 z] w3 fun e w' => e = .returned (.bool (named n (fun i => inInt zm i lm) z)) ∧ w' = w3) := fun z => inMask_any _ n n _ z w3 (by omega) HM2.out
      have HRG7 : Hid (∀ q, q < lp → Calls Tryf.prog 20 #[.int .i64 n, .slice (pa q) (pl q) (pc q)] w3 fun e w' => BoolIf e (allIn n (zp q) (pl q)) ∧ w' = w3) := fun q hq => inRange_any n _ _ _ _ w3 (HPL.out q hq) (H7'.out.inn q hq)
      have HRG8 : Hid (∀ q, q < lp → Calls Tryf.prog 20 #[.int .i64 n, .slice (qa q) (ql q) (qc q)] w3 fun e w' => BoolIf e (allIn n (zo q) (ql q)) ∧ w' = w3) := fun q hq => inRange_any n _ _ _ _ w3 (HQL.out q hq) (H8'.out.inn q hq)
      go_wp2
      go_loop [22] (fun i => ∃ k : Nat, k ≤ la ∧ i = .int .i64 k ∧ Hid (∀ j, j < k → named n (fun i => inInt zm i lm) (za j) = true ∧ named n (fun i => inInt zm i lm) (zb j) = true)) (fun i => la - (intOf i).toNat)
      case atStart => exact ⟨0, Nat.zero_le _, rfl, fun j hj => absurd hj (by omega)⟩
      case round =>
        obtain ⟨k, hk, rfl, HAB⟩ := hrel
        by_cases hlt : k < la
        · obtain ⟨y, hy, hc⟩ := H2'.out k hlt
          obtain ⟨y', hy', hcb⟩ := H3'.out k hlt
          subst hy
          subst hy'
          have hc' : w3.cell? (y.add k) = some (.int .i64 (za k)) := hc
          have hcb' : w3.cell? (y'.add k) = some (.int .i64 (zb k)) := hcb
          have HCA : Hid (Calls Tryf.prog 19 #[.slice (some ⟨m1, 0, none⟩) n n, .int .i64 (za k)] w3 fun e w' => e = .returned (.bool (named n (fun i => inInt zm i lm) (za k))) ∧ w' = w3) := HIM1.out (za k)
          have HCB : Hid (Calls Tryf.prog 19 #[.slice (some ⟨m1, 0, none⟩) n n, .int .i64 (zb k)] w3 fun e w' => e = .returned (.bool (named n (fun i => inInt zm i lm) (zb k))) ∧ w' = w3) := HIM1.out (zb k)
          have hlti : (k : Int) < (la : Int) := by omega
          clear hc hcb
          go_wp2_with fail
          refine Calls.mono HCA.out ?_
          rintro e w' ⟨rfl, hw'⟩
          obtain rfl := hw'.symm
          cases hna : named n (fun i => inInt zm i lm) (za k)
          · clear hna
            go_wp2
            go_ret
            exact ⟨⟨_, rfl, fun h => absurd h (by simp)⟩, HB3.out⟩
          have HNA : Hid (named n (fun i => inInt zm i lm) (za k) = true) := hna
          clear hna
          go_wp2_with fail
          refine Calls.mono HCB.out ?_
          rintro e w' ⟨rfl, hw'⟩
          obtain rfl := hw'.symm
          cases hnb : named n (fun i => inInt zm i lm) (zb k)
          · clear hnb
            go_wp2
            go_ret
            exact ⟨⟨_, rfl, fun h => absurd h (by simp)⟩, HB3.out⟩
          have HNB : Hid (named n (fun i => inInt zm i lm) (zb k) = true) := hnb
          clear hnb
          go_wp2
          refine ⟨⟨k + 1, by omega, by go_num, fun j hj => ?_⟩, ?_⟩
          · by_cases e : j = k
            · subst e; exact ⟨HNA.out, HNB.out⟩
            · exact HAB.out j (by omega)
          · simp [intOf]; omega
        · obtain rfl : la = k := by omega
          go_wp2
          go_loop [23] (fun i => ∃ k : Nat, k ≤ la ∧ i = .int .i64 k ∧ Hid (∀ j, j < k → named n (fun i => inInt zm i lm) (za j) = true ∧ named n (fun i => inInt zm i lm) (zb j) = true)) (fun i => la - (intOf i).toNat)
          case atStart => exact ⟨0, Nat.zero_le _, rfl, fun j hj => absurd hj (by omega)⟩
          case round =>
            obtain ⟨k, hk, rfl, HAB2⟩ := hrel
            by_cases hlt : k < la
            · obtain ⟨y, hy, hc⟩ := H2'.out k hlt
              obtain ⟨y', hy', hcb⟩ := H3'.out k hlt
              subst hy
              subst hy'
              have hc' : w3.cell? (y.add k) = some (.int .i64 (za k)) := hc
              have hcb' : w3.cell? (y'.add k) = some (.int .i64 (zb k)) := hcb
              have HCA : Hid (Calls Tryf.prog 19 #[.slice (some ⟨m2, 0, none⟩) n n, .int .i64 (za k)] w3 fun e w' => e = .returned (.bool (named n (fun i => inInt zm i lm) (za k))) ∧ w' = w3) := HIM2.out (za k)
              have HCB : Hid (Calls Tryf.prog 19 #[.slice (some ⟨m2, 0, none⟩) n n, .int .i64 (zb k)] w3 fun e w' => e = .returned (.bool (named n (fun i => inInt zm i lm) (zb k))) ∧ w' = w3) := HIM2.out (zb k)
              have hlti : (k : Int) < (la : Int) := by omega
              clear hc hcb
              go_wp2_with fail
              refine Calls.mono HCA.out ?_
              rintro e w' ⟨rfl, hw'⟩
              obtain rfl := hw'.symm
              cases hna : named n (fun i => inInt zm i lm) (za k)
              · clear hna
                go_wp2
                go_ret
                exact ⟨⟨_, rfl, fun h => absurd h (by simp)⟩, HB3.out⟩
              have HNA : Hid (named n (fun i => inInt zm i lm) (za k) = true) := hna
              clear hna
              go_wp2_with fail
              refine Calls.mono HCB.out ?_
              rintro e w' ⟨rfl, hw'⟩
              obtain rfl := hw'.symm
              cases hnb : named n (fun i => inInt zm i lm) (zb k)
              · clear hnb
                go_wp2
                go_ret
                exact ⟨⟨_, rfl, fun h => absurd h (by simp)⟩, HB3.out⟩
              have HNB : Hid (named n (fun i => inInt zm i lm) (zb k) = true) := hnb
              clear hnb
              go_wp2
              refine ⟨⟨k + 1, by omega, by go_num, fun j hj => ?_⟩, ?_⟩
              · by_cases e : j = k
                · subst e; exact ⟨HNA.out, HNB.out⟩
                · exact HAB2.out j (by omega)
              · simp [intOf]; omega
            · obtain rfl : la = k := by omega
              go_wp2
              go_loop [24] (fun i => ∃ q : Nat, q ≤ lp ∧ i = .int .i64 q ∧ Hid (∀ j, j < q → allIn n (zp j) (pl j) ∧ allIn n (zo j) (ql j))) (fun i => lp - (intOf i).toNat)
              case atStart => exact ⟨0, Nat.zero_le _, rfl, fun j hj => absurd hj (by omega)⟩
              case round =>
                obtain ⟨q, hq, rfl, HPO⟩ := hrel
                by_cases hlt : q < lp
                · obtain ⟨y, hy, hc⟩ := H7'.out.out q hlt
                  obtain ⟨y', hy', hcb⟩ := H8'.out.out q hlt
                  subst hy
                  subst hy'
                  have hc' : w3.cell? (y.add q) = some (.slice (pa q) (pl q) (pc q)) := hc
                  have hcb' : w3.cell? (y'.add q) = some (.slice (qa q) (ql q) (qc q)) := hcb
                  have HCA : Hid (Calls Tryf.prog 20 #[.int .i64 n, .slice (pa q) (pl q) (pc q)] w3 fun e w' => BoolIf e (allIn n (zp q) (pl q)) ∧ w' = w3) := HRG7.out q hlt
                  have HCB : Hid (Calls Tryf.prog 20 #[.int .i64 n, .slice (qa q) (ql q) (qc q)] w3 fun e w' => BoolIf e (allIn n (zo q) (ql q)) ∧ w' = w3) := HRG8.out q hlt
                  have hlti : (q : Int) < (lp : Int) := by omega
                  clear hc hcb
                  go_wp2_with fail
                  refine Calls.mono HCA.out ?_
                  rintro e w' ⟨⟨ba, rfl, hba⟩, hw'⟩
                  obtain rfl := hw'.symm
                  have HBA : Hid (ba = true → allIn n (zp q) (pl q)) := hba
                  clear hba
                  cases ba
                  · go_wp2
                    go_ret
                    exact ⟨⟨_, rfl, fun h => absurd h (by simp)⟩, HB3.out⟩
                  go_wp2_with fail
                  refine Calls.mono HCB.out ?_
                  rintro e w' ⟨⟨bb, rfl, hbb⟩, hw'⟩
                  obtain rfl := hw'.symm
                  have HBB : Hid (bb = true → allIn n (zo q) (ql q)) := hbb
                  clear hbb
                  cases bb
                  · go_wp2
                    go_ret
                    exact ⟨⟨_, rfl, fun h => absurd h (by simp)⟩, HB3.out⟩
                  go_wp2
                  refine ⟨⟨q + 1, by omega, by go_num, fun j hj => ?_⟩, ?_⟩
                  · by_cases e : j = q
                    · subst e; exact ⟨HBA.out (by simp), HBB.out (by simp)⟩
                    · exact HPO.out j (by omega)
                  · simp [intOf]; omega
                · obtain rfl : lp = q := by omega
                  go_wp2
                  go_ret
                  exact ⟨⟨_, rfl, fun _ => ⟨HDI.out, rfl, rfl, HIn.out, HDi.out, HAB.out, HPO.out⟩⟩, HB3.out⟩
    · have q2' : ((lp : Int) != (lo : Int)) = true := by rw [bne_iff_ne]; omega
      subst q1
      go_wp2
      go_ret
      exact ⟨⟨_, rfl, fun h => absurd h (by simp)⟩, HB1.out⟩
  · have q1' : ((la : Int) != (lb : Int)) = true := by rw [bne_iff_ne]; omega
    go_wp2
    go_ret
    exact ⟨⟨_, rfl, fun h => absurd h (by simp)⟩, HB1.out⟩
end Go.Proofs.Qxb6605818aFmt
