import Derived.Test.Qxb6605852aMask
namespace Go.Proofs.Qxb6605852a
open Go.RowKit Go.Shelf
set_option linter.unusedVariables false

set_option maxRecDepth 100000 in
set_option maxHeartbeats 1000000 in
theorem heldMask_any (ss : List Seg) (hG : Good ss) (hS : Shape ss) (p : Option Addr) (g cap L b row : Nat) (w : World) (hL : (flat ss).length = L) (hr : row < 4294967296) (hb : b < 4294967296) (hp : ss ≠ [] → p = some ⟨g, 0, none⟩)
    (hc : ∀ i, i < L → w.cell? ⟨g, i, none⟩ = some (.int .u64 (gw (flat ss) i : Nat))) :
    Calls Try.prog 21 #[.slice p L cap, .int .u32 b, .int .u32 row] w fun e w' => (∃ M, MaskIs ss row b ss.length M ∧ e = .returned (.int .u32 (M : Nat))) ∧ w' = w := by
  have HL : Hid (L ≤ 100000) := by have := hG.len; show _ ≤ _; omega
  have HC : Hid (∀ i, i < L → w.cell? ⟨g, i, none⟩ = some (.int .u64 (gw (flat ss) i : Nat))) := hc
  have HP : Hid (ss ≠ [] → p = some ⟨g, 0, none⟩) := hp
  have HS : Hid (Shape ss) := hS
  clear hc hp hS
  have hLi : (L : Int) ≤ 100000 := by have := HL.out; omega
  go_enter Try.func21, Try.ntmps21
  go_wp2
  go_loop [7, 8] (fun mk i => ∃ k M : Nat, k ≤ ss.length ∧ mk = .int .u32 (M : Nat) ∧ i = .int .i64 (hix ss k : Nat) ∧ Hid (MaskIs ss row b k M)) (fun _ i => L - (intOf i).toNat)
  case atStart => exact ⟨0, b, Nat.zero_le _, rfl, by rw [hix_zero]; rfl, mask_zero ss row b hb⟩
  case round =>
    obtain ⟨k, M, hk, rfl, rfl, HM⟩ := hrel
    by_cases hlt : k < ss.length
    · have h1 := hix_le ss k hlt
      have h2 := hG.at k hlt
      have h3 := hG.small k hlt
      have hgh := gw_head ss k hlt
      have hM32 := HM.out.1
      obtain ⟨I, hI⟩ : ∃ I, hix ss k = I := ⟨_, rfl⟩
      obtain ⟨n, hn⟩ : ∃ n, ss[k].words.length = n := ⟨_, rfl⟩
      obtain ⟨H, hH⟩ : ∃ H, ss[k].head = H := ⟨_, rfl⟩
      obtain ⟨m, hm⟩ : ∃ m, ss[k].mode = m := ⟨_, rfl⟩
      obtain ⟨first, hfi⟩ : ∃ first, ss[k].first = first := ⟨_, rfl⟩
      have e1 := head_mode32 ss[k] h2 h3
      have e2 : (H : Int) / 137438953472 = (n : Int) := by have := head_len ss[k] h2; rw [hH, hn] at this; omega
      have e0 : (H : Int) % 4294967296 = (first : Int) := by have := head_first ss[k] h2; rw [hH, hfi] at this; omega
      rw [hH, hm] at e1
      rw [hI, hn, hL] at h1
      rw [hI, hH] at hgh
      have hcell := HC.out I (by omega)
      rw [hgh] at hcell
      have hpp := HP.out (by intro e; rw [e] at hlt; simp at hlt)
      subst hpp
      rw [hI]
      have hm32 : m < 32 := by rw [← hm]; exact h2.mode
      have q1 : (I : Int) < (L : Int) := by omega
      have q2 : ¬ ((n : Int) > (L : Int) - (I : Int) - 1) := by omega
      have hnb : (n : Int) ≤ 100000 := by omega
      have HWD : Hid (∀ t, t < n → w.cell? ⟨g, I + (t + 1), none⟩ = some (.int .u64 (gw ss[k].words t : Nat))) := by
        intro t ht
        rw [show I + (t + 1) = I + 1 + t by omega, HC.out (I + 1 + t) (by omega), ← hI, gw_word ss k t hlt (by omega)]
      have hEnd : Hid (Value.int .i64 ((I : Int) + (1 + (n : Int))) = .int .i64 (hix ss (k + 1) : Nat)) := val_int (by rw [hix_succ ss k hlt, hI, hn]; omega)
      clear hgh h3
      by_cases hm0 : m = 0
      · have hm1 : ((m : Int) == 0) = true := by rw [hm0]; rfl
        have HM0 : Hid (ss[k].mode = 0) := by rw [hm]; exact hm0
        have HLS : Hid (LstOk ss[k]) := HS.out.lst _ (List.getElem_mem hlt) (by omega)
        clear hm0
        go_wp2_with fail
        go_loop [7, 12] (fun mk i => ∃ t M' : Nat, t ≤ n ∧ mk = .int .u32 (M' : Nat) ∧ i = .int .i64 ((t : Int) + 1) ∧ Hid (MaskIn ss[k].words row M t M')) (fun _ i => n + 1 - (intOf i).toNat)
        case atStart => exact ⟨0, M, Nat.zero_le _, rfl, rfl, maskIn_zero _ _ _ HM.out.1⟩
        case round =>
          obtain ⟨t, M', ht, rfl, rfl, HMI⟩ := hrel
          have hM32' := HMI.out.1
          by_cases htn : t < n
          · have htn1 : (t : Int) + 1 ≤ (n : Int) := by omega
            have hcw := HWD.out t htn
            obtain ⟨r, md, hx, hr', hmd0, hokd⟩ := HLS.out.2.2.2 (gw ss[k].words t) (gw_in (by omega))
            obtain ⟨x, hxx⟩ : ∃ x, gw ss[k].words t = x := ⟨_, rfl⟩
            rw [hxx] at hcw hx
            have hmd32 := okMode_lt hokd
            have e5 : (x : Int) / 4294967296 = (md : Int) := by rw [hx]; unfold lw; omega
            have e8 : (x : Int) % 4294967296 = (r : Int) := by rw [hx]; unfold lw; omega
            have e6 : ((md : Int) == 0) = false := by rw [beq_eq_false_iff_ne]; omega
            have e7 : ¬ ((md : Int) > 31) := by omega
            have HX : Hid (gw ss[k].words t = lw r md) := by rw [hxx]; exact hx
            clear hx hokd hmd0 hxx
            by_cases hrr : r = row
            · have e9 : ((r : Int) == (row : Int)) = true := by rw [hrr]; exact beq_self_eq_true _
              have HMI2 : Hid (MaskIn ss[k].words row M (t + 1) (M' ||| 2 ^ md)) := maskIn_hit hr (by omega) hmd32 HMI.out (by rw [HX.out, hrr])
              obtain ⟨M2, hM2⟩ : ∃ M2, M' ||| 2 ^ md = M2 := ⟨_, rfl⟩
              have e10 : bits .or .u32 (M' : Int) ((2 : Int) ^ md % 4294967296) = (M2 : Int) := by rw [or32_bit M' md hM32' hmd32, hM2]
              rw [hM2] at HMI2
              clear hrr hM2
              go_wp2
              refine ⟨⟨t + 1, M2, by omega, rfl, val_int (by omega), HMI2.out⟩, ?_⟩
              simp [intOf]; omega
            · have e9 : ((r : Int) == (row : Int)) = false := by rw [beq_eq_false_iff_ne]; omega
              have HMI2 : Hid (MaskIn ss[k].words row M (t + 1) M') := maskIn_other (by omega) HMI.out (fun i e => hrr (lw_inj hr' hr (HX.out ▸ e)).1)
              clear hrr
              go_wp2
              refine ⟨⟨t + 1, M', by omega, rfl, val_int (by omega), HMI2.out⟩, ?_⟩
              simp [intOf]; omega
          · have htn1 : ¬ (t : Int) + 1 ≤ (n : Int) := by omega
            have HMS : Hid (MaskIs ss row b (k + 1) M') := by
              refine mask_succ hlt HM.out hM32' (fun i => ?_)
              rw [HMI.out.2, List.take_of_length_le (by omega)]
              unfold segHolds
              simp [HM0.out]
            go_wp2
            refine ⟨⟨k + 1, M', hlt, rfl, hEnd.out, HMS.out⟩, ?_⟩
            simp [intOf]; omega
      · have hm1 : ((m : Int) == 0) = false := by rw [beq_eq_false_iff_ne]; omega
        have HM0 : Hid (ss[k].mode ≠ 0) := by rw [hm]; exact hm0
        obtain ⟨off, ho⟩ : ∃ off, off = offs row first := ⟨_, rfl⟩
        have hf32 : first < 4294967296 := by rw [← hfi]; exact h2.first
        have eo : ((row : Int) - (first : Int)) % 4294967296 = (off : Int) := by unfold offs at ho; omega
        have hoff : off < 4294967296 := by rw [ho]; exact offs_lt _ _
        obtain ⟨q, hq⟩ : ∃ q, q = off / 64 := ⟨_, rfl⟩
        obtain ⟨kb, hkb⟩ : ∃ kb, kb = off % 64 := ⟨_, rfl⟩
        have eq1 : (off : Int) / 64 = (q : Int) := by omega
        have eb := u32_and63 off hoff
        rw [← hkb] at eb
        have hkb64 : kb < 64 := by omega
        have hq1 : q < 67108864 := by omega
        have HIB : Hid (inBits ss[k].words (offs row ss[k].first) = (decide (q < n) && (gw ss[k].words q).testBit kb)) := by
          show _ = _
          unfold inBits
          rw [hfi, ← ho, ← hq, ← hkb, hn]
        clear ho hq hkb hm0
        by_cases hqn : q < n
        · have hqn1 : (q : Int) < (n : Int) := by omega
          have hcw := HWD.out q hqn
          obtain ⟨x, hxx⟩ : ∃ x, gw ss[k].words q = x := ⟨_, rfl⟩
          rw [hxx] at hcw
          have hx64 : x < 18446744073709551616 := by rw [← hxx]; exact h2.word _ (gw_in (by omega))
          have hcw2 : w.cell? ⟨g, I + 1 + q, none⟩ = some (.int .u64 (x : Nat)) := by rw [show I + 1 + q = I + (q + 1) by omega]; exact hcw
          have hbn := and_bit_ne x kb hx64 hkb64
          have hIq : (I : Int) + 1 + (q : Int) < (L : Int) := by omega
          cases hb : x.testBit kb with
          | true =>
            rw [hb] at hbn
            obtain ⟨M2, hM2⟩ : ∃ M2, M ||| 2 ^ m = M2 := ⟨_, rfl⟩
            have e10 : bits .or .u32 (M : Int) ((2 : Int) ^ m % 4294967296) = (M2 : Int) := by rw [or32_bit M m hM32 hm32, hM2]
            have HMS : Hid (MaskIs ss row b (k + 1) M2) := by
              refine mask_succ hlt HM.out (by rw [← hM2]; exact or32_lt _ _ hM32 hm32) (fun i => ?_)
              rw [← hM2, or_testBit, Bool.or_eq_true, decide_eq_true_eq]
              unfold segHolds
              rw [HIB.out, hxx, hb, hm]
              have := HM0.out
              rw [hm] at this
              simp [hqn, this]
              constructor
              · rintro (a | a)
                · exact .inl a
                · exact .inr a.symm
              · rintro (a | a)
                · exact .inl a
                · exact .inr a.symm
            clear hM2 hb
            go_wp2
            refine ⟨⟨k + 1, M2, hlt, rfl, hEnd.out, HMS.out⟩, ?_⟩
            simp [intOf]; omega
          | false =>
            rw [hb] at hbn
            have HMS : Hid (MaskIs ss row b (k + 1) M) := by
              refine mask_succ hlt HM.out hM32 (fun i => ?_)
              unfold segHolds
              rw [HIB.out, hxx, hb]
              simp [HM0.out]
            clear hb
            go_wp2
            refine ⟨⟨k + 1, M, hlt, rfl, hEnd.out, HMS.out⟩, ?_⟩
            simp [intOf]; omega
        · have hqn1 : ¬ (q : Int) < (n : Int) := by omega
          have HMS : Hid (MaskIs ss row b (k + 1) M) := by
            refine mask_succ hlt HM.out hM32 (fun i => ?_)
            unfold segHolds
            rw [HIB.out]
            simp [HM0.out, hqn]
          go_wp2
          refine ⟨⟨k + 1, M, hlt, rfl, hEnd.out, HMS.out⟩, ?_⟩
          simp [intOf]; omega
    · obtain rfl : k = ss.length := by omega
      have hfin : hix ss ss.length = L := by rw [hix_end, hL]
      rw [hfin]
      go_wp2
      go_ret
      exact ⟨⟨M, HM.out, rfl⟩, rfl⟩
end Go.Proofs.Qxb6605852a
