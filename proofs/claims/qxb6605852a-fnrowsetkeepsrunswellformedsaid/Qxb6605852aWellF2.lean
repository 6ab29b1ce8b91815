import Derived.Test.Qxb6605852aWellF
namespace Go.Proofs.Qxb6605852a
open Go.RowKit Go.Shelf
set_option linter.unusedVariables false

def SeenIs (ss : List Seg) (k s : Nat) : Prop := s < 4294967296 ∧ ∀ i, s.testBit i = true ↔ i ∈ (ss.take k).map (·.mode)

theorem seen_zero (ss : List Seg) : SeenIs ss 0 0 := ⟨by omega, fun i => by simp⟩
theorem seen_not {ss : List Seg} (h : Shape ss) {k s : Nat} (hk : k < ss.length) (hs : SeenIs ss k s) : s.testBit ss[k].mode = false := by
  cases hb : s.testBit ss[k].mode with
  | false => rfl
  | true =>
    exfalso
    obtain ⟨t, ht, e⟩ := List.mem_map.1 ((hs.2 _).1 hb)
    obtain ⟨i, hi, rfl⟩ := List.getElem_of_mem ht
    have hi' : i < k := by simp at hi; omega
    rw [List.getElem_take] at e
    have := mode_inj h.modes (by omega) hk e
    omega
theorem seen_succ {ss : List Seg} {k s : Nat} (hk : k < ss.length) (hm : ss[k].mode < 32) (hs : SeenIs ss k s) : SeenIs ss (k + 1) (s ||| 2 ^ ss[k].mode) := by
  refine ⟨or32_lt _ _ hs.1 hm, fun i => ?_⟩
  rw [or_testBit, List.take_succ_eq_append_getElem hk, List.map_append, List.mem_append, ← hs.2 i]
  simp
  constructor
  · rintro (a | a)
    · exact .inl a
    · exact .inr a.symm
  · rintro (a | a)
    · exact .inl a
    · exact .inr a.symm

set_option maxRecDepth 100000 in
set_option maxHeartbeats 1000000 in
theorem wellFormed_any (ss : List Seg) (hG : Good ss) (hS : Shape ss) (p : Option Addr) (g cap L : Nat) (w : World) (hL : (flat ss).length = L) (hp : ss ≠ [] → p = some ⟨g, 0, none⟩)
    (hc : ∀ i, i < L → w.cell? ⟨g, i, none⟩ = some (.int .u64 (gw (flat ss) i : Nat))) :
    Calls Try.prog 17 #[.slice p L cap] w fun e w' => e = .returned (.bool true) ∧ w' = w := by
  have HL : Hid (L ≤ 100000) := by have := hG.len; show _ ≤ _; omega
  have HC : Hid (∀ i, i < L → w.cell? ⟨g, i, none⟩ = some (.int .u64 (gw (flat ss) i : Nat))) := hc
  have HP : Hid (ss ≠ [] → p = some ⟨g, 0, none⟩) := hp
  have HS : Hid (Shape ss) := hS
  clear hc hp hS
  have hLi : (L : Int) ≤ 100000 := by have := HL.out; omega
  go_enter Try.func17, Try.ntmps17
  go_wp2
  go_loop [3, 4] (fun sn i => ∃ k s : Nat, k ≤ ss.length ∧ sn = .int .u32 (s : Nat) ∧ i = .int .i64 (hix ss k : Nat) ∧ Hid (SeenIs ss k s)) (fun _ i => L - (intOf i).toNat)
  case atStart => exact ⟨0, 0, Nat.zero_le _, rfl, by rw [hix_zero]; rfl, seen_zero ss⟩
  case round =>
    obtain ⟨k, s, hk, rfl, rfl, HSN⟩ := hrel
    by_cases hlt : k < ss.length
    · have h1 := hix_le ss k hlt
      have h2 := hG.at k hlt
      have h3 := hG.small k hlt
      have hgh := gw_head ss k hlt
      have hnot := seen_not HS.out hlt HSN.out
      have HSU : Hid _ := seen_succ hlt h2.mode HSN.out
      have hs32 := HSN.out.1
      obtain ⟨I, hI⟩ : ∃ I, hix ss k = I := ⟨_, rfl⟩
      obtain ⟨n, hn⟩ : ∃ n, ss[k].words.length = n := ⟨_, rfl⟩
      obtain ⟨H, hH⟩ : ∃ H, ss[k].head = H := ⟨_, rfl⟩
      obtain ⟨m, hm⟩ : ∃ m, ss[k].mode = m := ⟨_, rfl⟩
      have e1 := head_mode32 ss[k] h2 h3
      have e2 : (H : Int) / 137438953472 = (n : Int) := by have := head_len ss[k] h2; rw [hH, hn] at this; omega
      rw [hH, hm] at e1
      rw [hI, hn, hL] at h1
      rw [hI, hH] at hgh
      have hcell := HC.out I (by omega)
      rw [hgh] at hcell
      have hpp := HP.out (by intro e; rw [e] at hlt; simp at hlt)
      subst hpp
      rw [hI]
      have hm32 : m < 32 := by rw [← hm]; exact h2.mode
      have hn1 : 1 ≤ n := by rw [← hn]; exact h2.pos
      have e3 : (bits .and .u32 (s : Int) ((2 : Int) ^ m % 4294967296) != 0) = false := by rw [and32_ne s m hs32 hm32, ← hm]; exact hnot
      obtain ⟨s2, hs2⟩ : ∃ s2, s ||| 2 ^ m = s2 := ⟨_, rfl⟩
      have e4 : bits .or .u32 (s : Int) ((2 : Int) ^ m % 4294967296) = (s2 : Int) := by rw [or32_bit s m hs32 hm32, hs2]
      have HSU2 : Hid (SeenIs ss (k + 1) s2) := by have h := HSU.out; rw [hm, hs2] at h; exact h
      have hok : okMode m := hm ▸ HS.out.valid _ (List.getElem_mem hlt)
      have HOK : Hid (okMode m) := hok
      have q1 : (I : Int) < (L : Int) := by omega
      have q2 : ¬ ((n : Int) > (L : Int) - (I : Int) - 1) := by omega
      have hnb : (n : Int) ≤ 100000 := by omega
      have hn1' : (1 : Int) ≤ (n : Int) := by omega
      clear hgh h3 hnot hs2 HSU hok
      have HWD : Hid (∀ t, t < n → w.cell? ⟨g, I + (t + 1), none⟩ = some (.int .u64 (gw ss[k].words t : Nat))) := by
        intro t ht
        rw [show I + (t + 1) = I + 1 + t by omega, HC.out (I + 1 + t) (by omega), ← hI, gw_word ss k t hlt (by omega)]
      have hEnd : Hid (Value.int .i64 ((I : Int) + (1 + (n : Int))) = .int .i64 (hix ss (k + 1) : Nat)) := val_int (by rw [hix_succ ss k hlt, hI, hn]; omega)
      by_cases hm0 : m = 0
      · have hm1 : ((m : Int) == 0) = true := by rw [hm0]; rfl
        have HLS : Hid (LstOk ss[k]) := HS.out.lst _ (List.getElem_mem hlt) (by omega)
        clear hm0
        go_wp2_with fail
        go_loop [8] (fun i => ∃ t : Nat, t ≤ n ∧ i = .int .i64 ((t : Int) + 1)) (fun i => n + 1 - (intOf i).toNat)
        case atStart => exact ⟨0, Nat.zero_le _, rfl⟩
        case round =>
          obtain ⟨t, ht, rfl⟩ := hrel
          by_cases htn : t < n
          · have htn1 : (t : Int) + 1 ≤ (n : Int) := by omega
            have hcw := HWD.out t htn
            obtain ⟨r, md, hx, hr, hmd0, hokd⟩ := HLS.out.2.2.2 (gw ss[k].words t) (gw_in (by omega))
            obtain ⟨x, hxx⟩ : ∃ x, gw ss[k].words t = x := ⟨_, rfl⟩
            rw [hxx] at hcw hx
            have hmd32 := okMode_lt hokd
            have e5 : (x : Int) / 4294967296 = (md : Int) := by rw [hx]; unfold lw; omega
            have e6 : ((md : Int) == 0) = false := by rw [beq_eq_false_iff_ne]; omega
            have e7 : ¬ ((md : Int) > 31) := by omega
            have HRM : Hid (rowModeB md = true) := (rowModeB_iff md).2 hokd
            clear hx hokd hmd0
            go_wp2_with fail
            refine (rowMode_any md (by omega) w).mono ?_
            rintro e w' ⟨rfl, hw'⟩
            obtain rfl := hw'.symm
            rw [HRM.out]
            go_wp2
            refine ⟨⟨t + 1, by omega, val_int (by omega)⟩, ?_⟩
            simp [intOf]; omega
          · have htn1 : ¬ (t : Int) + 1 ≤ (n : Int) := by omega
            go_wp2
            refine ⟨⟨k + 1, s2, hlt, rfl, hEnd.out, HSU2.out⟩, ?_⟩
            simp [intOf]; omega
      · have hm1 : ((m : Int) == 0) = false := by rw [beq_eq_false_iff_ne]; omega
        have HRM : Hid (rowModeB m = true) := (rowModeB_iff m).2 HOK.out
        have HAN : Hid (ss[k].words.any (fun x => decide (x ≠ 0)) = true) := HS.out.bit _ (List.getElem_mem hlt) (by omega)
        clear hm0
        go_wp2_with fail
        refine (rowMode_any m (by omega) w).mono ?_
        rintro e w' ⟨rfl, hw'⟩
        obtain rfl := hw'.symm
        rw [HRM.out]
        go_wp2_with fail
        go_loop [10, 11] (fun b i => ∃ t : Nat, t ≤ n ∧ b = .bool ((ss[k].words.take t).any (fun x => decide (x ≠ 0))) ∧ i = .int .i64 ((t : Int) + 1)) (fun _ i => n + 1 - (intOf i).toNat)
        case atStart => exact ⟨0, Nat.zero_le _, rfl, rfl⟩
        case round =>
          obtain ⟨t, ht, rfl, rfl⟩ := hrel
          obtain ⟨bb, hbb⟩ : ∃ bb, (ss[k].words.take t).any (fun x => decide (x ≠ 0)) = bb := ⟨_, rfl⟩
          have HBB : Hid ((ss[k].words.take t).any (fun x => decide (x ≠ 0)) = bb) := hbb
          rw [hbb]
          clear hbb
          by_cases htn : t < n
          · have htn1 : (t : Int) + 1 ≤ (n : Int) := by omega
            have hcw := HWD.out t htn
            obtain ⟨x, hxx⟩ : ∃ x, gw ss[k].words t = x := ⟨_, rfl⟩
            rw [hxx] at hcw
            have HST : Hid ((ss[k].words.take (t + 1)).any (fun x => decide (x ≠ 0)) = (bb || decide (x ≠ 0))) := by
              show _ = _
              rw [List.take_succ_eq_append_getElem (by omega), List.any_append, HBB.out, ← gw_of_lt (by omega), hxx]
              simp
            by_cases hx0 : x = 0
            · have hx1 : ((x : Int) != 0) = false := by rw [hx0]; rfl
              have HX0 : Hid (x = 0) := hx0
              clear hx0
              go_wp2
              refine ⟨⟨t + 1, by omega, ?_, val_int (by omega)⟩, ?_⟩
              · rw [HST.out, HX0.out]; simp
              · simp [intOf]; omega
            · have hx1 : ((x : Int) != 0) = true := by rw [bne_iff_ne]; omega
              have HX0 : Hid (x ≠ 0) := hx0
              clear hx0
              go_wp2
              refine ⟨⟨t + 1, by omega, ?_, val_int (by omega)⟩, ?_⟩
              · rw [HST.out]; simp [HX0.out]
              · simp [intOf]; omega
          · have htn1 : ¬ (t : Int) + 1 ≤ (n : Int) := by omega
            have hbt : bb = true := by
              rw [← HBB.out, List.take_of_length_le (by omega)]
              exact HAN.out
            subst hbt
            go_wp2
            refine ⟨⟨k + 1, s2, hlt, rfl, hEnd.out, HSU2.out⟩, ?_⟩
            simp [intOf]; omega
    · obtain rfl : k = ss.length := by omega
      have hfin : hix ss ss.length = L := by rw [hix_end, hL]
      rw [hfin]
      go_wp2
      go_ret
      exact ⟨rfl, rfl⟩
end Go.Proofs.Qxb6605852a
