import Derived.Test.Qxb6605852aReaders
namespace Go.Proofs.Qxb6605852a
open Go.RowKit Go.Shelf
set_option linter.unusedVariables false

set_option maxRecDepth 100000 in
set_option maxHeartbeats 2000000 in
theorem agree_any (B C n : Nat) (T : List Nat) (ss : List Seg) (f : Nat → Nat) (sz : Nat) (cur : Nat → Nat) (hs : Nat → Bool) (w : World) (h : Scr B w C n T ss f sz cur hs) (hn : n ≤ 4097) :
    Calls Try.prog 11 #[.pointer (some ⟨B, 0, none⟩), .map (some (B + 1)), .slice (some ⟨B + 2, 0, none⟩) T.length C] w fun e w' => e = .returned (.bool true) ∧ w' = w := by
  obtain ⟨p, cap, hRd⟩ := h.readers hn
  obtain ⟨L, hL⟩ : ∃ L, (flat ss).length = L := ⟨_, rfl⟩
  rw [hL] at hRd
  have HRD : Hid (Readers B w (.slice p L cap) ss f sz cur) := hRd
  have HS : Hid (Scr B w C n T ss f sz cur hs) := h
  obtain ⟨N, hN⟩ : ∃ N, T.length = N := ⟨_, rfl⟩
  have HN : Hid (T.length = N) := hN
  have hNb : N ≤ 4097 := by have := h.pl.tl; omega
  have hNi : (N : Int) ≤ 4097 := by omega
  have HCL : Hid (∀ i, i < N → w.cell? ⟨B + 2, i, none⟩ = some (.int .u32 (gw T i : Nat))) := fun i hi => h.tc.cell i (by omega)
  have HRW : Hid (∀ i, i < N → gw T i < 4294967296) := fun i hi => h.pl.rows _ (gw_in (by omega))
  rw [hN]
  obtain ⟨Tt, hTt⟩ : ∃ Tt, total ss = Tt := ⟨_, rfl⟩
  have hTl := total_le ss
  have hfl := h.pl.len
  have hTb : (Tt : Int) ≤ 1000000 := by omega
  have HTT : Hid (held cur T = Tt + sz) := by show _ = _; rw [h.pl.tot, hTt]
  have HSP : Hid (held f T = sz) := h.pl.spn
  have hszb : (sz : Int) ≤ 5000 := by have := h.pl.sz; omega
  have HCT : Hid (Calls Try.prog 16 #[.slice p L cap] w fun e w' => e = .returned (.tuple #[.int .i64 (Tt : Nat), .bool true]) ∧ w' = w) := by have := hRd.count; rw [hTt] at this; exact this
  clear hN hL hRd hTt hTl hfl h
  go_enter Try.func11, Try.ntmps11
  go_wp2_with fail
  refine Calls.mono HRD.out.runs ?_
  rintro e w' ⟨rfl, hw'⟩
  obtain rfl := hw'.symm
  go_wp2
  go_loop [8, 9, 10, 22] (fun a b c i => ∃ k : Nat, k ≤ N ∧ a = .int .i64 (held cur (T.take k) : Nat) ∧ b = .int .i64 (held f (T.take k) : Nat) ∧ c = .int .i64 (held f (T.take k) : Nat) ∧ i = .int .i64 (k : Nat)) (fun _ _ _ i => N - (intOf i).toNat)
  case atStart => exact ⟨0, Nat.zero_le _, by simp [held], by simp [held], by simp [held], rfl⟩
  case round =>
    obtain ⟨k, hk, rfl, rfl, rfl, rfl⟩ := hrel
    by_cases hlt : k < N
    · have hce := HCL.out k hlt
      have hr := HRW.out k hlt
      have ht1 := held_take_succ cur T k (by have := HN.out; omega)
      have ht2 := held_take_succ f T k (by have := HN.out; omega)
      obtain ⟨R, hR⟩ : ∃ R, gw T k = R := ⟨_, rfl⟩
      rw [hR] at hce hr ht1 ht2
      obtain ⟨A, hA⟩ : ∃ A, held cur (T.take k) = A := ⟨_, rfl⟩
      obtain ⟨Sp, hSp⟩ : ∃ Sp, held f (T.take k) = Sp := ⟨_, rfl⟩
      have hAb : (A : Int) ≤ 4097 := by have := held_le cur (T.take k); have h2 := List.length_take_le k T; omega
      have hSb : (Sp : Int) ≤ 4097 := by have := held_le f (T.take k); have h2 := List.length_take_le k T; omega
      rw [hA] at ht1
      rw [hSp] at ht2
      rw [hA, hSp]
      have HT1 : Hid (held cur (T.take (k + 1)) = A + one (cur R)) := ht1
      have HT2 : Hid (held f (T.take (k + 1)) = Sp + one (f R)) := ht2
      have hlk := HS.out.mid.look1 R hr
      have hsp := HRD.out.spill R hr
      have hmk := HRD.out.mask R hr
      have hpo := pc_one HS.out.pl.inv R
      have hf32 := f_lt HS.out.pl.inv R
      have hokc := HS.out.pl.inv.okc R
      have hspl := HS.out.pl.inv.spl R
      obtain ⟨F, hF⟩ : ∃ F, f R = F := ⟨_, rfl⟩
      obtain ⟨Mo, hMo⟩ : ∃ Mo, cur R = Mo := ⟨_, rfl⟩
      rw [hF] at hsp hmk hpo hf32 hspl
      rw [hMo] at hlk hmk hokc hspl
      have HF : Hid (f R = F) := hF
      have HMO : Hid (cur R = Mo) := hMo
      have hlti : (k : Int) < (N : Int) := by omega
      have hF64 : (F : Int) < 4294967296 := by omega
      have hM22 : Mo < 22 := by unfold okMode at hokc; omega
      have hM22i : (Mo : Int) < 22 := by omega
      have HP : Hid (F ≠ 0 → Calls Try.prog 15 #[.int .u64 F] w fun e w' => e = .returned (.int .i64 1) ∧ w' = w) := fun h0 => by
        have := popcount_any F (by omega) w
        rw [hpo, one_pos h0] at this
        exact this
      have HSC : Hid (Calls Try.prog 14 #[.pointer (some ⟨B, 0, none⟩), .int .u32 (R : Int)] w fun e w' => e = .returned (.int .u32 (F : Nat)) ∧ w' = w) := hsp
      have HMK : Hid (Calls Try.prog 21 #[.slice p L cap, .int .u32 (F : Nat), .int .u32 (R : Int)] w fun e w' => e = .returned (.int .u32 (bitOf Mo : Nat)) ∧ w' = w) := hmk
      clear hR hA hSp ht1 ht2 hF hMo hpo hokc hsp hmk
      by_cases hM0 : Mo = 0
      · have hF0 : F = 0 := by
          by_cases e : F = 0
          · exact e
          · exact absurd hM0 (hspl e).2
        have e1 : ((F : Int) != 0) = false := by rw [hF0]; rfl
        have e2 : ((Mo : Int) != 0) = false := by rw [hM0]; rfl
        have HM0 : Hid (Mo = 0) := hM0
        have HF0 : Hid (F = 0) := hF0
        have HMK2 : Hid (Calls Try.prog 21 #[.slice p L cap, .int .u32 (F : Nat), .int .u32 (R : Int)] w fun e w' => e = .returned (.int .u32 0) ∧ w' = w) := by have h2 := HMK.out; rw [hM0, bitOf_zero] at h2; exact h2
        clear hM0 hF0 hspl
        go_wp2_with fail
        refine Calls.mono HSC.out ?_
        rintro e w' ⟨rfl, hw'⟩
        obtain rfl := hw'.symm
        go_wp2_with fail
        refine Calls.mono HMK2.out ?_
        rintro e w' ⟨rfl, hw'⟩
        obtain rfl := hw'.symm
        go_wp2
        refine ⟨⟨k + 1, by omega, val_int ?_, val_int ?_, val_int ?_, by go_num⟩, ?_⟩
        · rw [HT1.out, HMO.out, HM0.out, one_zero]; omega
        · rw [HT2.out, HF.out, HF0.out, one_zero]; omega
        · rw [HT2.out, HF.out, HF0.out, one_zero]; omega
        · simp [intOf]; omega
      · have e2 : ((Mo : Int) != 0) = true := by rw [bne_iff_ne]; omega
        obtain ⟨W, hW⟩ : ∃ W, 2 ^ Mo = W := ⟨_, rfl⟩
        have hW32 : W < 4294967296 := by
          have h2 : 2 ^ Mo ≤ 2 ^ 31 := Nat.pow_le_pow_right (by omega) (by omega)
          omega
        have e3 : (2 : Int) ^ Mo % 4294967296 = (W : Int) := by
          have h2 : ((2 ^ Mo : Nat) : Int) = (W : Int) := by rw [hW]
          have h3 : ((2 ^ Mo : Nat) : Int) = (2 : Int) ^ Mo := by simp
          rw [← h3, h2]
          omega
        have HM0 : Hid (Mo ≠ 0) := hM0
        have HMK2 : Hid (Calls Try.prog 21 #[.slice p L cap, .int .u32 (F : Nat), .int .u32 (R : Int)] w fun e w' => e = .returned (.int .u32 (W : Nat)) ∧ w' = w) := by have h2 := HMK.out; rw [bitOf_pow hM0, hW] at h2; exact h2
        by_cases hF0 : F = 0
        · have e1 : ((F : Int) != 0) = false := by rw [hF0]; rfl
          have HF0 : Hid (F = 0) := hF0
          clear hM0 hF0 hspl hW
          go_wp2_with fail
          refine Calls.mono HSC.out ?_
          rintro e w' ⟨rfl, hw'⟩
          obtain rfl := hw'.symm
          go_wp2_with fail
          refine Calls.mono HMK2.out ?_
          rintro e w' ⟨rfl, hw'⟩
          obtain rfl := hw'.symm
          go_wp2
          refine ⟨⟨k + 1, by omega, val_int ?_, val_int ?_, val_int ?_, by go_num⟩, ?_⟩
          · rw [HT1.out, HMO.out, one_pos HM0.out]; omega
          · rw [HT2.out, HF.out, HF0.out, one_zero]; omega
          · rw [HT2.out, HF.out, HF0.out, one_zero]; omega
          · simp [intOf]; omega
        · have e1 : ((F : Int) != 0) = true := by rw [bne_iff_ne]; omega
          have HF0 : Hid (F ≠ 0) := hF0
          clear hM0 hF0 hspl hW
          go_wp2_with fail
          refine Calls.mono HSC.out ?_
          rintro e w' ⟨rfl, hw'⟩
          obtain rfl := hw'.symm
          go_wp2_with fail
          refine Calls.mono (HP.out HF0.out) ?_
          rintro e w' ⟨rfl, hw'⟩
          obtain rfl := hw'.symm
          go_wp2_with fail
          refine Calls.mono HMK2.out ?_
          rintro e w' ⟨rfl, hw'⟩
          obtain rfl := hw'.symm
          go_wp2
          refine ⟨⟨k + 1, by omega, val_int ?_, val_int ?_, val_int ?_, by go_num⟩, ?_⟩
          · rw [HT1.out, HMO.out, one_pos HM0.out]; omega
          · rw [HT2.out, HF.out, one_pos HF0.out]; omega
          · rw [HT2.out, HF.out, one_pos HF0.out]; omega
          · simp [intOf]; omega
    · obtain rfl : k = N := by omega
      have hfin : T.take k = T := List.take_of_length_le (by have := HN.out; omega)
      rw [hfin, HTT.out, HSP.out]
      clear hfin
      go_wp2_with fail
      refine Calls.mono HCT.out ?_
      rintro e w' ⟨rfl, hw'⟩
      obtain rfl := hw'.symm
      go_wp2_with fail
      refine Calls.mono HRD.out.len ?_
      rintro e w' ⟨rfl, hw'⟩
      obtain rfl := hw'.symm
      have hfe : ((Tt : Int) + (sz : Int) == ((Tt + sz : Nat) : Int)) = true := by simp
      go_wp2
      go_ret
      exact ⟨rfl, rfl⟩
end Go.Proofs.Qxb6605852a
