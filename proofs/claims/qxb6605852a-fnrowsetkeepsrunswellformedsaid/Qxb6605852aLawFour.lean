import Derived.Test.Qxb6605852aEnter
namespace Go.Proofs.Qxb6605852a
open Go.RowKit Go.Shelf
set_option linter.unusedVariables false

set_option maxRecDepth 100000 in
set_option maxHeartbeats 1000000 in
theorem law4_short (a0 a1 : Option Addr) (len0 cap0 len1 cap1 : Nat) (w : World) (l0 : len0 ≤ maxLen) (l1 : len1 ≤ maxLen) (q : 4096 < len0 ∨ (len0 ≤ 4096 ∧ 4096 < len1)) :
    Calls Try.prog 4 #[.slice a0 len0 cap0, .slice a1 len1 cap1] w fun e w' => e = .returned (.bool true) ∧ Below w.heap.size w w' := by
  have HB0 : Hid (Calls Try.prog 12 #[.slice a0 len0 cap0, .slice a1 len1 cap1] w fun e w' => (∃ b, e = .returned (.bool b)) ∧ w' = w) := bytes12 a0 a1 len0 cap0 len1 cap1 l0 l1 w
  clear l0 l1
  rcases q with q | ⟨q0, q⟩
  · have qi : (len0 : Int) > 4096 := by omega
    clear q
    go_enter Try.func4, Try.ntmps4
    go_wp2_with fail
    refine Calls.mono HB0.out ?_
    rintro e w' ⟨⟨b, rfl⟩, hw'⟩
    obtain rfl := hw'.symm
    cases b
    · go_wp2; go_ret; exact ⟨rfl, Below.refl _ _⟩
    · go_wp2; go_ret; exact ⟨rfl, Below.refl _ _⟩
  · have qi : (len1 : Int) > 4096 := by omega
    have q0i : ¬ (len0 : Int) > 4096 := by omega
    clear q q0
    go_enter Try.func4, Try.ntmps4
    go_wp2_with fail
    refine Calls.mono HB0.out ?_
    rintro e w' ⟨⟨b, rfl⟩, hw'⟩
    obtain rfl := hw'.symm
    cases b
    · go_wp2; go_ret; exact ⟨rfl, Below.refl _ _⟩
    · go_wp2; go_ret; exact ⟨rfl, Below.refl _ _⟩

set_option maxRecDepth 100000 in
set_option maxHeartbeats 2000000 in
theorem law4_main (a0 a1 : Option Addr) (len0 cap0 len1 cap1 : Nat) (rs ms : List Nat) (w : World) (h0 : In .u32 w a0 len0 cap0 rs) (h1 : In .u8 w a1 len1 cap1 ms) (l0 : len0 ≤ maxLen) (l1 : len1 ≤ maxLen) (q0 : len0 ≤ 4096) (q1 : len1 ≤ 4096)
    (hr : ∀ i, i < len0 → gw rs i < 4294967296) (hm : ∀ i, i < len1 → gw ms i < 256) :
    Calls Try.prog 4 #[.slice a0 len0 cap0, .slice a1 len1 cap1] w fun e w' => e = .returned (.bool true) ∧ Below w.heap.size w w' := by
  have HB0 : Hid (Calls Try.prog 12 #[.slice a0 len0 cap0, .slice a1 len1 cap1] w fun e w' => (∃ b, e = .returned (.bool b)) ∧ w' = w) := bytes12 a0 a1 len0 cap0 len1 cap1 l0 l1 w
  have HC7 : Hid (Calls Try.prog 7 #[.slice a0 len0 cap0] w fun e w' => ∃ p b, e = .returned (.slice p len0 len0) ∧ Rd .u32 w' p b len0 rs ∧ Below w.heap.size w w') := clone22 a0 len0 cap0 rs w h0 q0
  have HC8 : Hid (∀ w1, Below w.heap.size w w1 → Calls Try.prog 8 #[.slice a1 len1 cap1] w1 fun e w' => ∃ p b, e = .returned (.slice p len1 len1) ∧ Rd .u8 w' p b len1 ms ∧ Below w1.heap.size w1 w') := fun w1 hb => clone23 a1 len1 cap1 ms w1 (h1.below hb) q1
  obtain ⟨K, hK⟩ : ∃ K, (len1 < len0 ∧ K = len1) ∨ (¬ len1 < len0 ∧ K = len0) := by
    by_cases c : len1 < len0
    · exact ⟨len1, .inl ⟨c, rfl⟩⟩
    · exact ⟨len0, .inr ⟨c, rfl⟩⟩
  have hK4 : K ≤ 4096 := by omega
  have HSCR : Hid (∀ p1 p2 b1 b2 w2, Rd .u32 w2 p1 b1 len0 rs → Rd .u8 w2 p2 b2 len1 ms → Calls Try.prog 9 #[.slice p1 len0 len0, .slice p2 len1 len1] w2 fun e w' => ∃ n T ss f sz cur hs, n ≤ K ∧ e = .returned (.tuple #[.pointer (some ⟨w2.heap.size, 0, none⟩), .map (some (w2.heap.size + 1)), .slice (some ⟨w2.heap.size + 2, 0, none⟩) T.length (K + 1)]) ∧ Scr w2.heap.size w' (K + 1) n T ss f sz cur hs ∧ Below w2.heap.size w2 w' ∧ w2.heap.size + 2 < w'.heap.size) := fun p1 p2 b1 b2 w2 r1 r2 => script_any p1 p2 b1 b2 K len0 len1 rs ms w2 q0 q1 hr hm r1 r2 hK
  have q0i : ¬ (len0 : Int) > 4096 := by omega
  have q1i : ¬ (len1 : Int) > 4096 := by omega
  clear h0 h1 l0 l1 hr hm hK q0 q1
  go_enter Try.func4, Try.ntmps4
  go_wp2_with fail
  refine Calls.mono HB0.out ?_
  rintro e w' ⟨⟨b, rfl⟩, hw'⟩
  obtain rfl := hw'.symm
  cases b
  · go_wp2; go_ret; exact ⟨rfl, Below.refl _ _⟩
  · go_wp2_with fail
    refine Calls.mono HC7.out ?_
    rintro e w1 ⟨p1, b1, rfl, hrd1, hb1⟩
    have HRD1 : Hid (Rd .u32 w1 p1 b1 len0 rs) := hrd1
    have HB1 : Hid (Below w.heap.size w w1) := hb1
    clear hrd1 hb1
    go_wp2_with fail
    refine Calls.mono (HC8.out w1 HB1.out) ?_
    rintro e w2 ⟨p2, b2, rfl, hrd2, hb2⟩
    have HRD2 : Hid (Rd .u8 w2 p2 b2 len1 ms) := hrd2
    have HRD3 : Hid (Rd .u32 w2 p1 b1 len0 rs) := HRD1.out.below hb2
    have HB2 : Hid (Below w.heap.size w w2) := HB1.out.trans (hb2.mono HB1.out.size)
    clear hrd2 hb2
    go_wp2_with fail
    refine Calls.mono (HSCR.out p1 p2 b1 b2 w2 HRD3.out HRD2.out) ?_
    rintro e w3 ⟨n, T, ss, f, sz, cur, hs, hn, rfl, hS, hb3, hsz3⟩
    obtain ⟨B, hB⟩ : ∃ B, w2.heap.size = B := ⟨_, rfl⟩
    rw [hB] at hS ⊢
    have HB3 : Hid (Below w.heap.size w w3) := HB2.out.trans (hb3.mono HB2.out.size)
    have HS : Hid (Scr B w3 (K + 1) n T ss f sz cur hs) := hS
    clear hb3 hB hsz3
    obtain ⟨p, cap, hRd⟩ := hS.readers (by omega)
    obtain ⟨L, hL⟩ : ∃ L, (flat ss).length = L := ⟨_, rfl⟩
    rw [hL] at hRd
    have HRD : Hid (Readers B w3 (.slice p L cap) ss f sz cur) := hRd
    obtain ⟨N, hN⟩ : ∃ N, T.length = N := ⟨_, rfl⟩
    have HN : Hid (T.length = N) := hN
    have hNb : N ≤ 4097 := by have := hS.pl.tl; omega
    have hNi : (N : Int) ≤ 4097 := by omega
    have HCL : Hid (∀ i, i < N → w3.cell? ⟨B + 2, i, none⟩ = some (.int .u32 (gw T i : Nat))) := fun i hi => hS.tc.cell i (by omega)
    have HRW : Hid (∀ i, i < N → gw T i < 4294967296) := fun i hi => hS.pl.rows _ (gw_in (by omega))
    rw [hN]
    obtain ⟨Tt, hTt⟩ : ∃ Tt, total ss = Tt := ⟨_, rfl⟩
    have hTl := total_le ss
    have hfl := hS.pl.len
    have hTb : (Tt : Int) ≤ 1000000 := by omega
    have HTT : Hid (held cur T = Tt + sz) := by show _ = _; rw [hS.pl.tot, hTt]
    have HSP : Hid (held f T = sz) := hS.pl.spn
    have hszb : (sz : Int) ≤ 5000 := by have := hS.pl.sz; omega
    have HCT : Hid (Calls Try.prog 16 #[.slice p L cap] w3 fun e w' => e = .returned (.tuple #[.int .i64 (Tt : Nat), .bool true]) ∧ w' = w3) := by have := hRd.count; rw [hTt] at this; exact this
    clear hN hL hRd hTt hTl hfl hS
    go_wp2_with fail
    refine Calls.mono HRD.out.runs ?_
    rintro e w' ⟨rfl, hw'⟩
    obtain rfl := hw'.symm
    go_wp2
    go_loop [9, 10, 11, 44] (fun a b c i => ∃ k : Nat, k ≤ N ∧ a = .int .i64 (held cur (T.take k) : Nat) ∧ b = .int .i64 (held f (T.take k) : Nat) ∧ c = .int .i64 (held f (T.take k) : Nat) ∧ i = .int .i64 (k : Nat)) (fun _ _ _ i => N - (intOf i).toNat)
    case atStart => exact ⟨0, Nat.zero_le _, by simp [held], by simp [held], by simp [held], rfl⟩
    case round =>
      obtain ⟨k, hk, rfl, rfl, rfl, rfl⟩ := hrel
      by_cases hlt : k < N
      · have hce := HCL.out k hlt
        have hr := HRW.out k hlt
        have ht1 := held_take_succ cur T k (by have := HN.out; omega)
        have ht2 := held_take_succ f T k (by have := HN.out; omega)
        obtain ⟨R, hR⟩ : ∃ R, gw T k = R := ⟨_, rfl⟩
        rw [hR] at hce hr ht1 ht2
        obtain ⟨A, hA⟩ : ∃ A, held cur (T.take k) = A := ⟨_, rfl⟩
        obtain ⟨Sp, hSp⟩ : ∃ Sp, held f (T.take k) = Sp := ⟨_, rfl⟩
        have hAb : (A : Int) ≤ 4097 := by have := held_le cur (T.take k); have h2 := List.length_take_le k T; omega
        have hSb : (Sp : Int) ≤ 4097 := by have := held_le f (T.take k); have h2 := List.length_take_le k T; omega
        rw [hA] at ht1
        rw [hSp] at ht2
        rw [hA, hSp]
        have HT1 : Hid (held cur (T.take (k + 1)) = A + one (cur R)) := ht1
        have HT2 : Hid (held f (T.take (k + 1)) = Sp + one (f R)) := ht2
        have hlk := HS.out.mid.look1 R hr
        have hsp := HRD.out.spill R hr
        have hpo := pc_one HS.out.pl.inv R
        have hf32 := f_lt HS.out.pl.inv R
        have hokc := HS.out.pl.inv.okc R
        have hspl := HS.out.pl.inv.spl R
        obtain ⟨F, hF⟩ : ∃ F, f R = F := ⟨_, rfl⟩
        obtain ⟨Mo, hMo⟩ : ∃ Mo, cur R = Mo := ⟨_, rfl⟩
        rw [hF] at hsp hpo hf32 hspl
        rw [hMo] at hlk hokc hspl
        have HF : Hid (f R = F) := hF
        have HMO : Hid (cur R = Mo) := hMo
        have hlti : (k : Int) < (N : Int) := by omega
        have hF64 : (F : Int) < 4294967296 := by omega
        have HP : Hid (F ≠ 0 → Calls Try.prog 15 #[.int .u64 F] w3 fun e w' => e = .returned (.int .i64 1) ∧ w' = w3) := fun h0 => by
          have := popcount_any F (by omega) w3
          rw [hpo, one_pos h0] at this
          exact this
        have HSC : Hid (Calls Try.prog 14 #[.pointer (some ⟨B, 0, none⟩), .int .u32 (R : Int)] w3 fun e w' => e = .returned (.int .u32 (F : Nat)) ∧ w' = w3) := hsp
        have HAN : Hid (F ≠ 0 → (bits .andNot .u32 (F : Int) 4187134 != 0) = false) := fun h0 => by
          obtain ⟨e1, e2⟩ := hspl h0
          rw [e1]
          exact andNot_bits Mo hokc e2
        clear hR hA hSp ht1 ht2 hF hMo hpo hokc hsp
        by_cases hM0 : Mo = 0
        · have hF0 : F = 0 := by
            by_cases e : F = 0
            · exact e
            · exact absurd hM0 (hspl e).2
          have e1 : ((F : Int) != 0) = false := by rw [hF0]; rfl
          have e2 : ((Mo : Int) != 0) = false := by rw [hM0]; rfl
          have HM0 : Hid (Mo = 0) := hM0
          have HF0 : Hid (F = 0) := hF0
          clear hM0 hF0 hspl
          go_wp2_with fail
          refine Calls.mono HSC.out ?_
          rintro e w' ⟨rfl, hw'⟩
          obtain rfl := hw'.symm
          go_wp2
          refine ⟨⟨k + 1, by omega, val_int ?_, val_int ?_, val_int ?_, by go_num⟩, ?_⟩
          · rw [HT1.out, HMO.out, HM0.out, one_zero]; omega
          · rw [HT2.out, HF.out, HF0.out, one_zero]; omega
          · rw [HT2.out, HF.out, HF0.out, one_zero]; omega
          · simp [intOf]; omega
        · have e2 : ((Mo : Int) != 0) = true := by rw [bne_iff_ne]; omega
          have HM0 : Hid (Mo ≠ 0) := hM0
          by_cases hF0 : F = 0
          · have e1 : ((F : Int) != 0) = false := by rw [hF0]; rfl
            have HF0 : Hid (F = 0) := hF0
            clear hM0 hF0 hspl
            go_wp2_with fail
            refine Calls.mono HSC.out ?_
            rintro e w' ⟨rfl, hw'⟩
            obtain rfl := hw'.symm
            go_wp2
            refine ⟨⟨k + 1, by omega, val_int ?_, val_int ?_, val_int ?_, by go_num⟩, ?_⟩
            · rw [HT1.out, HMO.out, one_pos HM0.out]; omega
            · rw [HT2.out, HF.out, HF0.out, one_zero]; omega
            · rw [HT2.out, HF.out, HF0.out, one_zero]; omega
            · simp [intOf]; omega
          · have e1 : ((F : Int) != 0) = true := by rw [bne_iff_ne]; omega
            have e4 := HAN.out hF0
            have HF0 : Hid (F ≠ 0) := hF0
            clear hM0 hF0 hspl
            go_wp2_with fail
            refine Calls.mono HSC.out ?_
            rintro e w' ⟨rfl, hw'⟩
            obtain rfl := hw'.symm
            go_wp2_with fail
            refine Calls.mono (HP.out HF0.out) ?_
            rintro e w' ⟨rfl, hw'⟩
            obtain rfl := hw'.symm
            go_wp2
            refine ⟨⟨k + 1, by omega, val_int ?_, val_int ?_, val_int ?_, by go_num⟩, ?_⟩
            · rw [HT1.out, HMO.out, one_pos HM0.out]; omega
            · rw [HT2.out, HF.out, one_pos HF0.out]; omega
            · rw [HT2.out, HF.out, one_pos HF0.out]; omega
            · simp [intOf]; omega
      · obtain rfl : k = N := by omega
        have hfin : T.take k = T := List.take_of_length_le (by have := HN.out; omega)
        rw [hfin, HTT.out, HSP.out]
        clear hfin
        go_wp2_with fail
        refine Calls.mono HCT.out ?_
        rintro e w' ⟨rfl, hw'⟩
        obtain rfl := hw'.symm
        go_wp2_with fail
        refine Calls.mono HRD.out.well ?_
        rintro e w' ⟨rfl, hw'⟩
        obtain rfl := hw'.symm
        go_wp2_with fail
        refine Calls.mono HRD.out.len ?_
        rintro e w' ⟨rfl, hw'⟩
        obtain rfl := hw'.symm
        have hfe : ((Tt : Int) + (sz : Int) == ((Tt + sz : Nat) : Int)) = true := by simp
        go_wp2
        go_ret
        exact ⟨rfl, HB3.out⟩

theorem law4_any (a0 a1 : Option Addr) (len0 cap0 len1 cap1 : Nat) (rs ms : List Nat) (w : World) (h0 : In .u32 w a0 len0 cap0 rs) (h1 : In .u8 w a1 len1 cap1 ms) (l0 : len0 ≤ maxLen) (l1 : len1 ≤ maxLen)
    (hr : ∀ i, i < len0 → gw rs i < 4294967296) (hm : ∀ i, i < len1 → gw ms i < 256) :
    Calls Try.prog 4 #[.slice a0 len0 cap0, .slice a1 len1 cap1] w fun e w' => e = .returned (.bool true) ∧ Below w.heap.size w w' := by
  by_cases q0 : len0 ≤ 4096
  · by_cases q1 : len1 ≤ 4096
    · exact law4_main a0 a1 len0 cap0 len1 cap1 rs ms w h0 h1 l0 l1 q0 q1 hr hm
    · exact law4_short a0 a1 len0 cap0 len1 cap1 w l0 l1 (.inr ⟨q0, by omega⟩)
  · exact law4_short a0 a1 len0 cap0 len1 cap1 w l0 l1 (.inl (by omega))
end Go.Proofs.Qxb6605852a
