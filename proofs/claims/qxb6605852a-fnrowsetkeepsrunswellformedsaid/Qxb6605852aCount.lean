import Derived.Test.Qxb6605852aAcc
namespace Go.Proofs.Qxb6605852a
open Go.RowKit Go.Shelf
set_option linter.unusedVariables false

theorem pcs_le (ws : List Nat) : pcs ws ≤ 64 * ws.length := by
  induction ws with
  | nil => simp [pcs]
  | cons x ws ih =>
    have := pc_le x
    simp only [pcs, List.map_cons, List.sum_cons, List.length_cons] at *
    omega

theorem segCount_le (s : Seg) : segCount s ≤ 64 * s.words.length := by
  unfold segCount
  split
  · omega
  · exact pcs_le s.words

theorem total_le (ss : List Seg) : total ss ≤ 64 * (flat ss).length := by
  induction ss with
  | nil => simp [total, flat]
  | cons s ss ih =>
    have := segCount_le s
    simp only [total, List.map_cons, List.sum_cons, flat_cons, List.length_append, Seg.flat_length] at *
    omega

theorem total_take_succ (ss : List Seg) (k : Nat) (h : k < ss.length) : total (ss.take (k + 1)) = total (ss.take k) + segCount ss[k] := by
  rw [List.take_succ_eq_append_getElem h, total_append]

theorem pcs_take_succ (ws : List Nat) (t : Nat) (h : t < ws.length) : pcs (ws.take (t + 1)) = pcs (ws.take t) + pc (gw ws t) := by
  rw [List.take_succ_eq_append_getElem h, pcs_append, gw_of_lt h]
  simp [pcs]

theorem head_mode32 (s : Seg) (h : SegOk s) (hl : s.words.length ≤ 100000) : bits .and .u32 ((s.head : Int) / 4294967296) 31 = (s.mode : Int) := by
  have h1 := head_len s h
  have h2 := head_mode s h
  have e : ((s.head : Int) / 4294967296) = ((s.head / 4294967296 : Nat) : Int) := by omega
  have e2 : (31 : Int) = ((31 : Nat) : Int) := rfl
  rw [e, e2, u32_and_nat _ _ (by omega) (by omega), nat_mask5, h2]

theorem total_take_le (ss : List Seg) (k : Nat) : total (ss.take k) ≤ total ss := by
  have h : total ss = total (ss.take k) + total (ss.drop k) := by
    conv => lhs; rw [← List.take_append_drop k ss]
    simp only [total, List.map_append, List.sum_append]
  omega

set_option maxRecDepth 100000 in
set_option maxHeartbeats 1000000 in
theorem heldCount_any (ss : List Seg) (hG : Good ss) (p : Option Addr) (g cap L : Nat) (w : World) (hL : (flat ss).length = L) (hp : ss ≠ [] → p = some ⟨g, 0, none⟩)
    (hc : ∀ i, i < L → w.cell? ⟨g, i, none⟩ = some (.int .u64 (gw (flat ss) i : Nat))) :
    Calls Try.prog 16 #[.slice p L cap] w fun e w' => e = .returned (.tuple #[.int .i64 (total ss : Nat), .bool true]) ∧ w' = w := by
  have HL : Hid (L ≤ 100000) := by have := hG.len; show _ ≤ _; omega
  have HT : Hid (total ss ≤ 6400000) := by have := total_le ss; have := HL.out; show _ ≤ _; omega
  have HC : Hid (∀ i, i < L → w.cell? ⟨g, i, none⟩ = some (.int .u64 (gw (flat ss) i : Nat))) := hc
  have HP : Hid (ss ≠ [] → p = some ⟨g, 0, none⟩) := hp
  clear hc hp
  have hLi : (L : Int) ≤ 100000 := by have := HL.out; omega
  go_enter Try.func16, Try.ntmps16
  go_wp2
  go_loop [4, 5] (fun c i => ∃ k : Nat, k ≤ ss.length ∧ c = .int .i64 (total (ss.take k) : Nat) ∧ i = .int .i64 (hix ss k : Nat)) (fun _ i => L - (intOf i).toNat)
  case atStart => exact ⟨0, Nat.zero_le _, by simp [total], by rw [hix_zero]; rfl⟩
  case round =>
    obtain ⟨k, hk, rfl, rfl⟩ := hrel
    by_cases hlt : k < ss.length
    · have h1 := hix_le ss k hlt
      have h2 := hG.at k hlt
      have h3 := hG.small k hlt
      have hgh := gw_head ss k hlt
      have hts := total_take_succ ss k hlt
      have htl := total_take_le ss (k + 1)
      obtain ⟨I, hI⟩ : ∃ I, hix ss k = I := ⟨_, rfl⟩
      obtain ⟨n, hn⟩ : ∃ n, ss[k].words.length = n := ⟨_, rfl⟩
      obtain ⟨H, hH⟩ : ∃ H, ss[k].head = H := ⟨_, rfl⟩
      obtain ⟨m, hm⟩ : ∃ m, ss[k].mode = m := ⟨_, rfl⟩
      obtain ⟨c, hcc⟩ : ∃ c, total (ss.take k) = c := ⟨_, rfl⟩
      have e1 := head_mode32 ss[k] h2 h3
      have e2 : (H : Int) / 137438953472 = (n : Int) := by have := head_len ss[k] h2; rw [hH, hn] at this; omega
      rw [hH, hm] at e1
      rw [hI, hn, hL] at h1
      rw [hI, hH] at hgh
      have hcell := HC.out I (by omega)
      rw [hgh] at hcell
      have hpp := HP.out (by intro e; rw [e] at hlt; simp at hlt)
      subst hpp
      rw [hI, hcc]
      have q1 : (I : Int) < (L : Int) := by omega
      have q2 : ¬ ((n : Int) > (L : Int) - (I : Int) - 1) := by omega
      have HTS : Hid (total (ss.take (k + 1)) = c + segCount ss[k]) := by rw [← hcc]; exact hts
      have hcb : (c : Int) ≤ 6400000 := by have := HT.out; omega
      have hnb : (n : Int) ≤ 100000 := by omega
      clear hts htl hgh h3
      by_cases hm0 : m = 0
      · have hm1 : ((m : Int) == 0) = true := by rw [hm0]; rfl
        have HSC : Hid (segCount ss[k] = n) := by rw [segCount_list _ (by omega)]; exact hn
        clear hm0
        go_wp2_with fail
        refine ⟨⟨k + 1, hlt, val_int ?_, val_int ?_⟩, ?_⟩
        · have h4 := HTS.out; have h5 := HSC.out; omega
        · rw [hix_succ ss k hlt, hI, hn]; omega
        · simp [intOf]; omega
      · have hm1 : ((m : Int) == 0) = false := by rw [beq_eq_false_iff_ne]; omega
        have HSC : Hid (segCount ss[k] = pcs ss[k].words) := segCount_run _ (by omega)
        have HWD : Hid (∀ t, t < n → w.cell? ⟨g, I + (t + 1), none⟩ = some (.int .u64 (gw ss[k].words t : Nat))) := by
          intro t ht
          rw [show I + (t + 1) = I + 1 + t by omega, HC.out (I + 1 + t) (by omega), ← hI, gw_word ss k t hlt (by omega)]
        have HW64 : Hid (∀ t, t < n → gw ss[k].words t < 18446744073709551616) := fun t ht => h2.word _ (gw_in (by omega))
        have HPN : Hid (pcs ss[k].words ≤ 6400000) := by have h5 := pcs_le ss[k].words; have h6 := HL.out; show _ ≤ _; omega
        clear hm0
        go_wp2_with fail
        go_loop [4, 9] (fun c' i => ∃ t : Nat, t ≤ n ∧ c' = .int .i64 ((c + pcs (ss[k].words.take t) : Nat) : Int) ∧ i = .int .i64 ((t : Int) + 1)) (fun _ i => n + 1 - (intOf i).toNat)
        case atStart => exact ⟨0, Nat.zero_le _, by simp [pcs], rfl⟩
        case round =>
          obtain ⟨t, ht, rfl, rfl⟩ := hrel
          obtain ⟨c2, hc2⟩ : ∃ c2, c + pcs (ss[k].words.take t) = c2 := ⟨_, rfl⟩
          have HC2 : Hid (c + pcs (ss[k].words.take t) = c2) := hc2
          rw [hc2]
          have hpt : pcs (ss[k].words.take t) ≤ pcs ss[k].words := by
            have h5 : pcs ss[k].words = pcs (ss[k].words.take t) + pcs (ss[k].words.drop t) := by rw [← pcs_append, List.take_append_drop]
            omega
          have hc2b : (c2 : Int) ≤ 12800000 := by have := HPN.out; omega
          clear hc2
          by_cases htn : t < n
          · have htn1 : (t : Int) + 1 ≤ (n : Int) := by omega
            have hcw := HWD.out t htn
            obtain ⟨x, hx⟩ : ∃ x, gw ss[k].words t = x := ⟨_, rfl⟩
            rw [hx] at hcw
            have hx64 : x < 18446744073709551616 := by rw [← hx]; exact HW64.out t htn
            have hts := pcs_take_succ ss[k].words t (by omega)
            rw [hx] at hts
            have HTS2 : Hid (pcs (ss[k].words.take (t + 1)) = pcs (ss[k].words.take t) + pc x) := hts
            have hpx := pc_le x
            have hpx2 : (pc x : Int) ≤ 64 := by omega
            clear hts hpt
            go_wp2_with fail
            refine (popcount_any x hx64 w).mono ?_
            rintro e w' ⟨rfl, hw'⟩
            obtain rfl := hw'.symm
            go_wp2
            refine ⟨⟨t + 1, by omega, val_int ?_, val_int (by omega)⟩, ?_⟩
            · have h4 := HTS2.out; have h5 := HC2.out; omega
            · simp [intOf]; omega
          · have htn1 : ¬ (t : Int) + 1 ≤ (n : Int) := by omega
            have HTE : Hid (ss[k].words.take t = ss[k].words) := List.take_of_length_le (by omega)
            go_wp2
            refine ⟨⟨k + 1, hlt, val_int ?_, val_int ?_⟩, ?_⟩
            · have h4 := HTS.out; have h5 := HSC.out; have h6 := HC2.out
              rw [HTE.out] at h6
              omega
            · rw [hix_succ ss k hlt, hI, hn]; omega
            · simp [intOf]; omega
    · obtain rfl : k = ss.length := by omega
      have hfin : hix ss ss.length = L := by rw [hix_end, hL]
      rw [hfin]
      have HTK : Hid (total (ss.take ss.length) = total ss) := by show _ = _; rw [List.take_of_length_le (Nat.le_refl _)]
      rw [HTK.out]
      go_wp2
      go_ret2
      exact ⟨rfl, rfl⟩
end Go.Proofs.Qxb6605852a
