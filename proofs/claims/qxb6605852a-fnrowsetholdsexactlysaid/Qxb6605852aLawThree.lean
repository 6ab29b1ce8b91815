import Derived.Test.Qxb6605852aEnter
namespace Go.Proofs.Qxb6605852a
open Go.RowKit Go.Shelf
set_option linter.unusedVariables false

set_option maxRecDepth 100000 in
set_option maxHeartbeats 1000000 in
theorem law3_short (a0 a1 : Option Addr) (len0 cap0 len1 cap1 row pv tg : Nat) (w : World) (l0 : len0 ≤ maxLen) (l1 : len1 ≤ maxLen) (q : 4096 < len0 ∨ (len0 ≤ 4096 ∧ 4096 < len1)) :
    Calls Try.prog 3 #[.slice a0 len0 cap0, .slice a1 len1 cap1, .int .u32 row, .int .u8 pv, .int .u8 tg] w fun e w' => e = .returned (.bool true) ∧ Below w.heap.size w w' := by
  have HB0 : Hid (Calls Try.prog 5 #[.slice a0 len0 cap0, .slice a1 len1 cap1, .int .u32 row, .int .u8 pv, .int .u8 tg] w fun e w' => (∃ b, e = .returned (.bool b)) ∧ w' = w) := bytes5 a0 a1 len0 cap0 len1 cap1 _ _ _ l0 l1 w
  clear l0 l1
  rcases q with q | ⟨q0, q⟩
  · have qi : (len0 : Int) > 4096 := by omega
    clear q
    go_enter Try.func3, Try.ntmps3
    go_wp2_with fail
    refine Calls.mono HB0.out ?_
    rintro e w' ⟨⟨b, rfl⟩, hw'⟩
    obtain rfl := hw'.symm
    cases b
    · go_wp2; go_ret; exact ⟨rfl, Below.refl _ _⟩
    · go_wp2; go_ret; exact ⟨rfl, Below.refl _ _⟩
  · have qi : (len1 : Int) > 4096 := by omega
    have q0i : ¬ (len0 : Int) > 4096 := by omega
    clear q q0
    go_enter Try.func3, Try.ntmps3
    go_wp2_with fail
    refine Calls.mono HB0.out ?_
    rintro e w' ⟨⟨b, rfl⟩, hw'⟩
    obtain rfl := hw'.symm
    cases b
    · go_wp2; go_ret; exact ⟨rfl, Below.refl _ _⟩
    · go_wp2; go_ret; exact ⟨rfl, Below.refl _ _⟩

set_option maxRecDepth 100000 in
set_option maxHeartbeats 2000000 in
theorem law3_main (a0 a1 : Option Addr) (len0 cap0 len1 cap1 row pv tg : Nat) (rs ms : List Nat) (w : World) (h0 : In .u32 w a0 len0 cap0 rs) (h1 : In .u8 w a1 len1 cap1 ms) (l0 : len0 ≤ maxLen) (l1 : len1 ≤ maxLen) (q0 : len0 ≤ 4096) (q1 : len1 ≤ 4096)
    (hr : ∀ i, i < len0 → gw rs i < 4294967296) (hm : ∀ i, i < len1 → gw ms i < 256) (hrow : row < 4294967296) (hpv : pv < 256) (htg : tg < 256) :
    Calls Try.prog 3 #[.slice a0 len0 cap0, .slice a1 len1 cap1, .int .u32 row, .int .u8 pv, .int .u8 tg] w fun e w' => e = .returned (.bool true) ∧ Below w.heap.size w w' := by
  have HB0 : Hid (Calls Try.prog 5 #[.slice a0 len0 cap0, .slice a1 len1 cap1, .int .u32 row, .int .u8 pv, .int .u8 tg] w fun e w' => (∃ b, e = .returned (.bool b)) ∧ w' = w) := bytes5 a0 a1 len0 cap0 len1 cap1 _ _ _ l0 l1 w
  have HPV : Hid (Calls Try.prog 6 #[.int .u8 pv] w fun e w' => e = .returned (.bool (rowModeB pv)) ∧ w' = w) := rowMode_any pv hpv w
  have HTG : Hid (Calls Try.prog 6 #[.int .u8 tg] w fun e w' => e = .returned (.bool (rowModeB tg)) ∧ w' = w) := rowMode_any tg htg w
  have HC7 : Hid (Calls Try.prog 7 #[.slice a0 len0 cap0] w fun e w' => ∃ p b, e = .returned (.slice p len0 len0) ∧ Rd .u32 w' p b len0 rs ∧ Below w.heap.size w w') := clone22 a0 len0 cap0 rs w h0 q0
  have HC8 : Hid (∀ w1, Below w.heap.size w w1 → Calls Try.prog 8 #[.slice a1 len1 cap1] w1 fun e w' => ∃ p b, e = .returned (.slice p len1 len1) ∧ Rd .u8 w' p b len1 ms ∧ Below w1.heap.size w1 w') := fun w1 hb => clone23 a1 len1 cap1 ms w1 (h1.below hb) q1
  obtain ⟨K, hK⟩ : ∃ K, (len1 < len0 ∧ K = len1) ∨ (¬ len1 < len0 ∧ K = len0) := by
    by_cases c : len1 < len0
    · exact ⟨len1, .inl ⟨c, rfl⟩⟩
    · exact ⟨len0, .inr ⟨c, rfl⟩⟩
  have hK4 : K ≤ 4096 := by omega
  have HSCR : Hid (∀ p1 p2 b1 b2 w2, Rd .u32 w2 p1 b1 len0 rs → Rd .u8 w2 p2 b2 len1 ms → Calls Try.prog 9 #[.slice p1 len0 len0, .slice p2 len1 len1] w2 fun e w' => ∃ n T ss f sz cur hs, n ≤ K ∧ e = .returned (.tuple #[.pointer (some ⟨w2.heap.size, 0, none⟩), .map (some (w2.heap.size + 1)), .slice (some ⟨w2.heap.size + 2, 0, none⟩) T.length (K + 1)]) ∧ Scr w2.heap.size w' (K + 1) n T ss f sz cur hs ∧ Below w2.heap.size w2 w' ∧ w2.heap.size + 2 < w'.heap.size) := fun p1 p2 b1 b2 w2 r1 r2 => script_any p1 p2 b1 b2 K len0 len1 rs ms w2 q0 q1 hr hm r1 r2 hK
  have q0i : ¬ (len0 : Int) > 4096 := by omega
  have q1i : ¬ (len1 : Int) > 4096 := by omega
  have HROW : Hid (row < 4294967296) := hrow
  clear h0 h1 l0 l1 hr hm hK q0 q1
  go_enter Try.func3, Try.ntmps3
  go_wp2_with fail
  refine Calls.mono HB0.out ?_
  rintro e w' ⟨⟨b, rfl⟩, hw'⟩
  obtain rfl := hw'.symm
  cases b
  · go_wp2; go_ret; exact ⟨rfl, Below.refl _ _⟩
  · go_wp2_with fail
    refine Calls.mono HPV.out ?_
    rintro e w' ⟨rfl, hw'⟩
    obtain rfl := hw'.symm
    cases hokp : rowModeB pv
    · go_wp2; go_ret; exact ⟨rfl, Below.refl _ _⟩
    clear hokp
    go_wp2_with fail
    refine Calls.mono HTG.out ?_
    rintro e w' ⟨rfl, hw'⟩
    obtain rfl := hw'.symm
    cases hokt : rowModeB tg
    · go_wp2; go_ret; exact ⟨rfl, Below.refl _ _⟩
    have HOK : Hid (okMode tg) := (rowModeB_iff tg).1 hokt
    clear hokt
    go_wp2_with fail
    refine Calls.mono HC7.out ?_
    rintro e w1 ⟨p1, b1, rfl, hrd1, hb1⟩
    have HRD1 : Hid (Rd .u32 w1 p1 b1 len0 rs) := hrd1
    have HB1 : Hid (Below w.heap.size w w1) := hb1
    clear hrd1 hb1
    go_wp2_with fail
    refine Calls.mono (HC8.out w1 HB1.out) ?_
    rintro e w2 ⟨p2, b2, rfl, hrd2, hb2⟩
    have HRD2 : Hid (Rd .u8 w2 p2 b2 len1 ms) := hrd2
    have HRD3 : Hid (Rd .u32 w2 p1 b1 len0 rs) := HRD1.out.below hb2
    have HB2 : Hid (Below w.heap.size w w2) := HB1.out.trans (hb2.mono HB1.out.size)
    clear hrd2 hb2
    go_wp2_with fail
    refine Calls.mono (HSCR.out p1 p2 b1 b2 w2 HRD3.out HRD2.out) ?_
    rintro e w3 ⟨n, T, ss, f, sz, cur, hs, hn, rfl, hS, hb3, hsz3⟩
    obtain ⟨B, hB⟩ : ∃ B, w2.heap.size = B := ⟨_, rfl⟩
    have hsw : w.heap.size ≤ B := by have := HB2.out.size; omega
    rw [hB] at hS hsz3 ⊢
    have HB3 : Hid (Below w.heap.size w w3) := HB2.out.trans (hb3.mono HB2.out.size)
    have HS : Hid (Scr B w3 (K + 1) n T ss f sz cur hs) := hS
    clear hb3 hB hsz3 hS
    have hlk := HS.out.mid.look row hrow
    have hlk1 := HS.out.mid.look1 row hrow
    obtain ⟨P, hP⟩ : ∃ P, cur row = P := ⟨_, rfl⟩
    have HP : Hid (cur row = P) := hP
    rw [hP] at hlk hlk1
    clear hP
    by_cases hPp : P = pv
    · subst hPp
      by_cases hh : hs row = true
      · have HT : Hid (touch hs T row = T) := by show _ = _; unfold touch; rw [if_pos hh]
        rw [hh] at hlk
        have HC2 : Hid (Calls Try.prog 10 #[.pointer (some ⟨B, 0, none⟩), .int .u32 row, .int .u8 P, .int .u8 tg] w3 fun e w' => e = .returned (.tuple #[]) ∧ Foot (mine B) w3 w' ∧ ∃ ss' f' sz', SetR ss f sz cur row tg ss' f' sz' ∧ RlSt (mine B) w' B ss' (n + 1) f' sz' ∧ (∃ sm, MapF 30 5 .u8 w' (B + 1) n cur hs sm) ∧ Tch w' (B + 2) (K + 1) T) := by
          have := HS.out.mid.set HS.out.pl row tg HROW.out HOK.out (by omega) HS.out.tc.lt
          rw [HP.out] at this
          exact this
        clear hh
        go_wp2_with fail
        refine Calls.mono HC2.out ?_
        rintro e w4 ⟨rfl, hF3, ss', f', sz', c1, c2, c3, c4⟩
        obtain ⟨w5, hput, hS4, hF4⟩ := scr_put HS.out.pl HROW.out HOK.out (by omega) c1 c2 c3 (by rw [HT.out]; exact c4)
        rw [HT.out] at hS4
        have HAG : Hid (Calls Try.prog 11 #[.pointer (some ⟨B, 0, none⟩), .map (some (B + 1)), .slice (some ⟨B + 2, 0, none⟩) T.length (K + 1)] w5 fun e w' => e = .returned (.bool true) ∧ w' = w5) := agree_any B (K + 1) (n + 1) T ss' f' sz' _ _ w5 hS4 (by omega)
        have HB4 : Hid (Below w.heap.size w w5) := (HB3.out.trans (hF3.below HB3.out.size (fun k e => Nat.le_trans hsw e.1))).trans (hF4.below (Nat.le_trans HB3.out.size hF3.size) (fun k e => by omega))
        clear hS4 hF4 hF3 c1 c2 c3 c4
        go_wp2_with fail
        refine Calls.mono HAG.out ?_
        rintro e w' ⟨rfl, hw'⟩
        obtain rfl := hw'.symm
        go_wp2
        go_ret
        exact ⟨rfl, HB4.out⟩
      · have hhf : hs row = false := by simpa using hh
        have HT : Hid (touch hs T row = T ++ [row]) := by show _ = _; unfold touch; rw [if_neg hh]
        rw [hhf] at hlk
        have hroom : T.length < K + 1 := by have := HS.out.pl.tl; omega
        obtain ⟨wa, hap, hM2, hF2⟩ := HS.out.touch row hroom
        have hs2 := hF2.size
        have hs1 := HS.out.tc.lt
        have HC2 : Hid (Calls Try.prog 10 #[.pointer (some ⟨B, 0, none⟩), .int .u32 row, .int .u8 P, .int .u8 tg] wa fun e w' => e = .returned (.tuple #[]) ∧ Foot (mine B) wa w' ∧ ∃ ss' f' sz', SetR ss f sz cur row tg ss' f' sz' ∧ RlSt (mine B) w' B ss' (n + 1) f' sz' ∧ (∃ sm, MapF 30 5 .u8 w' (B + 1) n cur hs sm) ∧ Tch w' (B + 2) (K + 1) (T ++ [row])) := by
          have := hM2.set HS.out.pl row tg HROW.out HOK.out (by omega) (by omega)
          rw [HP.out] at this
          exact this
        have HF2 : Hid (Foot (fun k => k = B + 2) w3 wa) := hF2
        clear hh hhf hroom hM2 hF2 hs2 hs1
        go_wp2_with (at_builtin; refine wpList_app rfl (.tmp 63) (.tmp 65) 22 rfl _ _ _ _ rfl rfl hap ?_)
        refine Calls.mono HC2.out ?_
        rintro e w4 ⟨rfl, hF3, ss', f', sz', c1, c2, c3, c4⟩
        obtain ⟨w5, hput, hS4, hF4⟩ := scr_put HS.out.pl HROW.out HOK.out (by omega) c1 c2 c3 (by rw [HT.out]; exact c4)
        rw [HT.out] at hS4
        have HAG : Hid (Calls Try.prog 11 #[.pointer (some ⟨B, 0, none⟩), .map (some (B + 1)), .slice (some ⟨B + 2, 0, none⟩) (T.length + 1) (K + 1)] w5 fun e w' => e = .returned (.bool true) ∧ w' = w5) := by
          have := agree_any B (K + 1) (n + 1) (T ++ [row]) ss' f' sz' _ _ w5 hS4 (by omega)
          rw [List.length_append, List.length_singleton] at this
          exact this
        have HB4 : Hid (Below w.heap.size w w5) := ((HB3.out.trans (HF2.out.below HB3.out.size (fun k e => by omega))).trans (hF3.below (Nat.le_trans HB3.out.size HF2.out.size) (fun k e => Nat.le_trans hsw e.1))).trans (hF4.below (Nat.le_trans (Nat.le_trans HB3.out.size HF2.out.size) hF3.size) (fun k e => by omega))
        clear hS4 hF4 hF3 c1 c2 c3 c4
        go_wp2_with fail
        refine Calls.mono HAG.out ?_
        rintro e w' ⟨rfl, hw'⟩
        obtain rfl := hw'.symm
        go_wp2
        go_ret
        exact ⟨rfl, HB4.out⟩
    · have e1 : ((P : Int) != (pv : Int)) = true := by rw [bne_iff_ne]; omega
      go_wp2
      go_ret
      exact ⟨rfl, HB3.out⟩

theorem law3_any (a0 a1 : Option Addr) (len0 cap0 len1 cap1 row pv tg : Nat) (rs ms : List Nat) (w : World) (h0 : In .u32 w a0 len0 cap0 rs) (h1 : In .u8 w a1 len1 cap1 ms) (l0 : len0 ≤ maxLen) (l1 : len1 ≤ maxLen)
    (hr : ∀ i, i < len0 → gw rs i < 4294967296) (hm : ∀ i, i < len1 → gw ms i < 256) (hrow : row < 4294967296) (hpv : pv < 256) (htg : tg < 256) :
    Calls Try.prog 3 #[.slice a0 len0 cap0, .slice a1 len1 cap1, .int .u32 row, .int .u8 pv, .int .u8 tg] w fun e w' => e = .returned (.bool true) ∧ Below w.heap.size w w' := by
  by_cases q0 : len0 ≤ 4096
  · by_cases q1 : len1 ≤ 4096
    · exact law3_main a0 a1 len0 cap0 len1 cap1 row pv tg rs ms w h0 h1 l0 l1 q0 q1 hr hm hrow hpv htg
    · exact law3_short a0 a1 len0 cap0 len1 cap1 row pv tg w l0 l1 (.inr ⟨q0, by omega⟩)
  · exact law3_short a0 a1 len0 cap0 len1 cap1 row pv tg w l0 l1 (.inl (by omega))
end Go.Proofs.Qxb6605852a
