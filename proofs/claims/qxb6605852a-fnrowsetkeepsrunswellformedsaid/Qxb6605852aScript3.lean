import Derived.Test.Qxb6605852aScript2
namespace Go.Proofs.Qxb6605852a
open Go.RowKit Go.Shelf
set_option linter.unusedVariables false

/-- A slice of numbers that can be read. -/
def Rd (k : IntKind) (w : World) (p : Option Addr) (b len : Nat) (rs : List Nat) : Prop := ∀ i, i < len → p = some ⟨b, 0, none⟩ ∧ w.cell? ⟨b, i, none⟩ = some (.int k (gw rs i : Nat))

theorem hmk0 (K : Nat) (hK : K ≤ 4096) (w : World) : (Instr.makeSlice 22 (.int .i64 0) (.int .i64 ((K : Int) + 1))).run Try.prog w = .ok (.slice (some ⟨w.heap.size, 0, none⟩) 0 (K + 1)) (w.alloc (.cells (zrowK .u32 (K + 1)) 24)) := by
  have := make22 0 (K + 1) (Nat.zero_le _) (by omega) w
  simpa using this

theorem wpList_app {P : Program} {w : World} {ops : Array Oper} {rest : List Oper} {o : Oper} {a : Act} {Q : Exit → Act → World → Prop} (hg : o.guard = none) (s x : Operand) (t : TypeId) (hop : o.op = Op.call { callee := Callee.builtin Builtin.append, args := #[s, x], argTypes := #[t, t] })
    (v1 v2 v : Value) (w1 : World) (hs : a.eval s = v1) (hx : a.eval x = v2) (hrun : ∀ ty, (Builtin.append_ #[t, t] ty #[v1, v2]).run P w = .ok v w1) (hK : wpList P ops Q rest (a.put o.dst v) w1) : wpList P ops Q (o :: rest) a w := by
  refine wpList_plain hg fun K hK' => ?_
  unfold Oper.wp
  simp [execOp, hop, resolve, invoke, builtin, hs, hx, hrun, Result.andThen]
  exact hK' _ _ hK

set_option maxRecDepth 100000 in
set_option maxHeartbeats 2000000 in
theorem script_any (p1 p2 : Option Addr) (b1 b2 K Lr Lm : Nat) (rs ms : List Nat) (w : World) (hLr : Lr ≤ 4096) (hLm : Lm ≤ 4096) (hr : ∀ i, i < Lr → gw rs i < 4294967296) (hm : ∀ i, i < Lm → gw ms i < 256)
    (h1 : Rd .u32 w p1 b1 Lr rs) (h2 : Rd .u8 w p2 b2 Lm ms) (hK : (Lm < Lr ∧ K = Lm) ∨ (¬ Lm < Lr ∧ K = Lr)) :
    Calls Try.prog 9 #[.slice p1 Lr Lr, .slice p2 Lm Lm] w fun e w' => ∃ n T ss f sz cur hs, n ≤ K ∧ e = .returned (.tuple #[.pointer (some ⟨w.heap.size, 0, none⟩), .map (some (w.heap.size + 1)), .slice (some ⟨w.heap.size + 2, 0, none⟩) T.length (K + 1)]) ∧ Scr w.heap.size w' (K + 1) n T ss f sz cur hs ∧ Below w.heap.size w w' ∧ w.heap.size + 2 < w'.heap.size := by
  have HK1 : Hid (K ≤ Lr ∧ K ≤ Lm) := by show _ ∧ _; omega
  have hK4 : K ≤ 4096 := by omega
  have HR : Hid (∀ i, i < Lr → gw rs i < 4294967296) := hr
  have HM : Hid (∀ i, i < Lm → gw ms i < 256) := hm
  have H1 : Hid (Rd .u32 w p1 b1 Lr rs) := h1
  have H2 : Hid (Rd .u8 w p2 b2 Lm ms) := h2
  have hmk := fun w => hmk0 K hK4 w
  have hmm := @run_makeMap Try.prog
  have HN : Hid (∀ w, Calls Try.prog 19 #[] w fun e w' => e = .returned (.pointer (some ⟨w.heap.size, 0, none⟩)) ∧ w' = w.alloc (.cells #[.slice none 0 0, .map none] 52)) := new_any
  have hKi : (K : Int) ≤ 4096 := by omega
  have HST := scr_start w K hK4
  have HS0 : Hid (Scr w.heap.size (((w.alloc (.cells #[.slice none 0 0, .map none] 52)).alloc (.map #[] 0)).alloc (.cells (zrowK .u32 (K + 1)) 24)) (K + 1) 0 [] [] (fun _ => 0) 0 (fun _ => 0) (fun _ => false)) := HST
  clear HST hr hm h1 h2
  rcases hK with ⟨hc, rfl⟩ | ⟨hc, rfl⟩
  · have hci : (K : Int) < (Lr : Int) := by omega
    clear hLr hLm hc
    go_enter Try.func9, Try.ntmps9
    go_wp2_with fail
    refine Calls.mono (HN.out w) ?_
    rintro e w1 ⟨rfl, rfl⟩
    go_wp2
    go_loopw [10, 11] (fun t i wr => ∃ n : Nat, n ≤ K ∧ i = .int .i64 n ∧ ∃ T ss f sz cur hs, t = .slice (some ⟨w.heap.size + 2, 0, none⟩) T.length (K + 1) ∧ Hid (Scr w.heap.size wr (K + 1) n T ss f sz cur hs) ∧ Hid (Below w.heap.size w wr)) (fun _ i _ => K - (intOf i).toNat)
    case atStart =>
      refine ⟨0, Nat.zero_le _, rfl, [], [], _, 0, _, _, ?_, HS0.out, ?_⟩
      · simp
      · exact (((Below.refl _ _).alloc (Nat.le_refl _) _).alloc (by simp) _).alloc (by simp; omega) _
    case round =>
      obtain ⟨n, hn, rfl, T, ss, f, sz, cur, hs, rfl, HS, HB⟩ := hrel
      by_cases hlt : n < K
      · obtain ⟨hp1, hc1⟩ := H1.out n (by have := HK1.out; omega)
        obtain ⟨hp2, hc2⟩ := H2.out n (by have := HK1.out; omega)
        have hR := HR.out n (by have := HK1.out; omega)
        have hM := HM.out n (by have := HK1.out; omega)
        have hc1 := (HB.out.cell (cell_lt hc1)).trans hc1
        have hc2 := (HB.out.cell (cell_lt hc2)).trans hc2
        obtain ⟨R, hRe⟩ : ∃ R, gw rs n = R := ⟨_, rfl⟩
        obtain ⟨M, hMe⟩ : ∃ M, gw ms n = M := ⟨_, rfl⟩
        rw [hRe] at hR hc1
        rw [hMe] at hM hc2
        clear hRe hMe
        subst hp1
        subst hp2
        have hlt2 : (n : Int) < (K : Int) := by omega
        have HC1 : Hid _ := rowMode_any M hM wr
        have HR2 : Hid (R < 4294967296) := hR
        go_wp2_with fail
        refine Calls.mono HC1.out ?_
        rintro e w' ⟨rfl, hw'⟩
        obtain rfl := hw'.symm
        by_cases hok : rowModeB M = true
        · have HOK : Hid (okMode M) := (rowModeB_iff M).1 hok
          rw [hok]
          have hlk := HS.out.mid.look R HR2.out
          obtain ⟨P, hP⟩ : ∃ P, cur R = P := ⟨_, rfl⟩
          have HP : Hid (cur R = P) := hP
          rw [hP] at hlk
          clear hok hP
          by_cases hh : hs R = true
          · have HT : Hid (touch hs T R = T) := by show _ = _; unfold touch; rw [if_pos hh]
            rw [hh] at hlk
            have HC2 : Hid (Calls Try.prog 10 #[.pointer (some ⟨w.heap.size, 0, none⟩), .int .u32 R, .int .u8 P, .int .u8 M] wr fun e w' => e = .returned (.tuple #[]) ∧ Foot (mine w.heap.size) wr w' ∧ ∃ ss' f' sz', SetR ss f sz cur R M ss' f' sz' ∧ RlSt (mine w.heap.size) w' w.heap.size ss' (n + 1) f' sz' ∧ (∃ sm, MapF 30 5 .u8 w' (w.heap.size + 1) n cur hs sm) ∧ Tch w' (w.heap.size + 2) (K + 1) T) := by
              have := HS.out.mid.set HS.out.pl R M HR2.out HOK.out (by omega) HS.out.tc.lt
              rw [HP.out] at this
              exact this
            clear hh
            go_wp2_with fail
            refine Calls.mono HC2.out ?_
            rintro e w3 ⟨rfl, hF3, ss', f', sz', a1, a2, a3, a4⟩
            obtain ⟨w4, hput, hS4, hF4⟩ := scr_put HS.out.pl HR2.out HOK.out (by omega) a1 a2 a3 (by rw [HT.out]; exact a4)
            rw [HT.out] at hS4
            have HS4 : Hid (Scr w.heap.size w4 (K + 1) (n + 1) T ss' f' sz' (upd cur R M) (upd hs R true)) := hS4
            have HB4 : Hid (Below w.heap.size w w4) := (HB.out.trans (hF3.below HB.out.size (fun k e => e.1))).trans (hF4.below (Nat.le_trans HB.out.size hF3.size) (fun k e => by omega))
            clear hS4 hF4 hF3 a1 a2 a3 a4
            go_wp2
            refine ⟨⟨n + 1, by omega, by go_num, T, ss', f', sz', _, _, rfl, HS4.out, HB4.out⟩, ?_⟩
            simp [intOf]; omega
          · have hhf : hs R = false := by simpa using hh
            have HT : Hid (touch hs T R = T ++ [R]) := by show _ = _; unfold touch; rw [if_neg hh]
            rw [hhf] at hlk
            have hroom : T.length < K + 1 := by have := HS.out.pl.tl; omega
            obtain ⟨w2, hap, hM2, hF2⟩ := HS.out.touch R hroom
            have hs2 := hF2.size
            have hs1 := HS.out.tc.lt
            have HC2 : Hid (Calls Try.prog 10 #[.pointer (some ⟨w.heap.size, 0, none⟩), .int .u32 R, .int .u8 P, .int .u8 M] w2 fun e w' => e = .returned (.tuple #[]) ∧ Foot (mine w.heap.size) w2 w' ∧ ∃ ss' f' sz', SetR ss f sz cur R M ss' f' sz' ∧ RlSt (mine w.heap.size) w' w.heap.size ss' (n + 1) f' sz' ∧ (∃ sm, MapF 30 5 .u8 w' (w.heap.size + 1) n cur hs sm) ∧ Tch w' (w.heap.size + 2) (K + 1) (T ++ [R])) := by
              have := hM2.set HS.out.pl R M HR2.out HOK.out (by omega) (by omega)
              rw [HP.out] at this
              exact this
            have HF2 : Hid (Foot (fun k => k = w.heap.size + 2) wr w2) := hF2
            clear hh hhf hroom hM2 hF2 hs2 hs1
            go_wp2_with (at_builtin; refine wpList_app rfl (.tmp 53) (.tmp 55) 22 rfl _ _ _ _ rfl rfl hap ?_)
            refine Calls.mono HC2.out ?_
            rintro e w3 ⟨rfl, hF3, ss', f', sz', a1, a2, a3, a4⟩
            obtain ⟨w4, hput, hS4, hF4⟩ := scr_put HS.out.pl HR2.out HOK.out (by omega) a1 a2 a3 (by rw [HT.out]; exact a4)
            rw [HT.out] at hS4
            have HS4 : Hid (Scr w.heap.size w4 (K + 1) (n + 1) (T ++ [R]) ss' f' sz' (upd cur R M) (upd hs R true)) := hS4
            have HB4 : Hid (Below w.heap.size w w4) := ((HB.out.trans (HF2.out.below HB.out.size (fun k e => by omega))).trans (hF3.below (Nat.le_trans HB.out.size HF2.out.size) (fun k e => e.1))).trans (hF4.below (Nat.le_trans (Nat.le_trans HB.out.size HF2.out.size) hF3.size) (fun k e => by omega))
            clear hS4 hF4 hF3 a1 a2 a3 a4
            go_wp2
            refine ⟨⟨n + 1, by omega, by go_num, T ++ [R], ss', f', sz', _, _, by simp, HS4.out, HB4.out⟩, ?_⟩
            simp [intOf]; omega
        · have hok2 : rowModeB M = false := by simpa using hok
          rw [hok2]
          clear hok hok2
          go_wp2
          refine ⟨⟨n + 1, by omega, by go_num, T, ss, f, sz, cur, hs, rfl, HS.out.more (by omega), HB.out⟩, ?_⟩
          simp [intOf]; omega
      · go_wp2
        go_ret3
        exact ⟨n, T, ss, f, sz, cur, hs, hn, rfl, HS.out, HB.out, HS.out.tc.lt⟩
  · have hci : ¬ (Lm : Int) < (K : Int) := by omega
    clear hLr hLm hc
    go_enter Try.func9, Try.ntmps9
    go_wp2_with fail
    refine Calls.mono (HN.out w) ?_
    rintro e w1 ⟨rfl, rfl⟩
    go_wp2
    go_loopw [10, 11] (fun t i wr => ∃ n : Nat, n ≤ K ∧ i = .int .i64 n ∧ ∃ T ss f sz cur hs, t = .slice (some ⟨w.heap.size + 2, 0, none⟩) T.length (K + 1) ∧ Hid (Scr w.heap.size wr (K + 1) n T ss f sz cur hs) ∧ Hid (Below w.heap.size w wr)) (fun _ i _ => K - (intOf i).toNat)
    case atStart =>
      refine ⟨0, Nat.zero_le _, rfl, [], [], _, 0, _, _, ?_, HS0.out, ?_⟩
      · simp
      · exact (((Below.refl _ _).alloc (Nat.le_refl _) _).alloc (by simp) _).alloc (by simp; omega) _
    case round =>
      obtain ⟨n, hn, rfl, T, ss, f, sz, cur, hs, rfl, HS, HB⟩ := hrel
      by_cases hlt : n < K
      · obtain ⟨hp1, hc1⟩ := H1.out n (by have := HK1.out; omega)
        obtain ⟨hp2, hc2⟩ := H2.out n (by have := HK1.out; omega)
        have hR := HR.out n (by have := HK1.out; omega)
        have hM := HM.out n (by have := HK1.out; omega)
        have hc1 := (HB.out.cell (cell_lt hc1)).trans hc1
        have hc2 := (HB.out.cell (cell_lt hc2)).trans hc2
        obtain ⟨R, hRe⟩ : ∃ R, gw rs n = R := ⟨_, rfl⟩
        obtain ⟨M, hMe⟩ : ∃ M, gw ms n = M := ⟨_, rfl⟩
        rw [hRe] at hR hc1
        rw [hMe] at hM hc2
        clear hRe hMe
        subst hp1
        subst hp2
        have hlt2 : (n : Int) < (K : Int) := by omega
        have HC1 : Hid _ := rowMode_any M hM wr
        have HR2 : Hid (R < 4294967296) := hR
        go_wp2_with fail
        refine Calls.mono HC1.out ?_
        rintro e w' ⟨rfl, hw'⟩
        obtain rfl := hw'.symm
        by_cases hok : rowModeB M = true
        · have HOK : Hid (okMode M) := (rowModeB_iff M).1 hok
          rw [hok]
          have hlk := HS.out.mid.look R HR2.out
          obtain ⟨P, hP⟩ : ∃ P, cur R = P := ⟨_, rfl⟩
          have HP : Hid (cur R = P) := hP
          rw [hP] at hlk
          clear hok hP
          by_cases hh : hs R = true
          · have HT : Hid (touch hs T R = T) := by show _ = _; unfold touch; rw [if_pos hh]
            rw [hh] at hlk
            have HC2 : Hid (Calls Try.prog 10 #[.pointer (some ⟨w.heap.size, 0, none⟩), .int .u32 R, .int .u8 P, .int .u8 M] wr fun e w' => e = .returned (.tuple #[]) ∧ Foot (mine w.heap.size) wr w' ∧ ∃ ss' f' sz', SetR ss f sz cur R M ss' f' sz' ∧ RlSt (mine w.heap.size) w' w.heap.size ss' (n + 1) f' sz' ∧ (∃ sm, MapF 30 5 .u8 w' (w.heap.size + 1) n cur hs sm) ∧ Tch w' (w.heap.size + 2) (K + 1) T) := by
              have := HS.out.mid.set HS.out.pl R M HR2.out HOK.out (by omega) HS.out.tc.lt
              rw [HP.out] at this
              exact this
            clear hh
            go_wp2_with fail
            refine Calls.mono HC2.out ?_
            rintro e w3 ⟨rfl, hF3, ss', f', sz', a1, a2, a3, a4⟩
            obtain ⟨w4, hput, hS4, hF4⟩ := scr_put HS.out.pl HR2.out HOK.out (by omega) a1 a2 a3 (by rw [HT.out]; exact a4)
            rw [HT.out] at hS4
            have HS4 : Hid (Scr w.heap.size w4 (K + 1) (n + 1) T ss' f' sz' (upd cur R M) (upd hs R true)) := hS4
            have HB4 : Hid (Below w.heap.size w w4) := (HB.out.trans (hF3.below HB.out.size (fun k e => e.1))).trans (hF4.below (Nat.le_trans HB.out.size hF3.size) (fun k e => by omega))
            clear hS4 hF4 hF3 a1 a2 a3 a4
            go_wp2
            refine ⟨⟨n + 1, by omega, by go_num, T, ss', f', sz', _, _, rfl, HS4.out, HB4.out⟩, ?_⟩
            simp [intOf]; omega
          · have hhf : hs R = false := by simpa using hh
            have HT : Hid (touch hs T R = T ++ [R]) := by show _ = _; unfold touch; rw [if_neg hh]
            rw [hhf] at hlk
            have hroom : T.length < K + 1 := by have := HS.out.pl.tl; omega
            obtain ⟨w2, hap, hM2, hF2⟩ := HS.out.touch R hroom
            have hs2 := hF2.size
            have hs1 := HS.out.tc.lt
            have HC2 : Hid (Calls Try.prog 10 #[.pointer (some ⟨w.heap.size, 0, none⟩), .int .u32 R, .int .u8 P, .int .u8 M] w2 fun e w' => e = .returned (.tuple #[]) ∧ Foot (mine w.heap.size) w2 w' ∧ ∃ ss' f' sz', SetR ss f sz cur R M ss' f' sz' ∧ RlSt (mine w.heap.size) w' w.heap.size ss' (n + 1) f' sz' ∧ (∃ sm, MapF 30 5 .u8 w' (w.heap.size + 1) n cur hs sm) ∧ Tch w' (w.heap.size + 2) (K + 1) (T ++ [R])) := by
              have := hM2.set HS.out.pl R M HR2.out HOK.out (by omega) (by omega)
              rw [HP.out] at this
              exact this
            have HF2 : Hid (Foot (fun k => k = w.heap.size + 2) wr w2) := hF2
            clear hh hhf hroom hM2 hF2 hs2 hs1
            go_wp2_with (at_builtin; refine wpList_app rfl (.tmp 53) (.tmp 55) 22 rfl _ _ _ _ rfl rfl hap ?_)
            refine Calls.mono HC2.out ?_
            rintro e w3 ⟨rfl, hF3, ss', f', sz', a1, a2, a3, a4⟩
            obtain ⟨w4, hput, hS4, hF4⟩ := scr_put HS.out.pl HR2.out HOK.out (by omega) a1 a2 a3 (by rw [HT.out]; exact a4)
            rw [HT.out] at hS4
            have HS4 : Hid (Scr w.heap.size w4 (K + 1) (n + 1) (T ++ [R]) ss' f' sz' (upd cur R M) (upd hs R true)) := hS4
            have HB4 : Hid (Below w.heap.size w w4) := ((HB.out.trans (HF2.out.below HB.out.size (fun k e => by omega))).trans (hF3.below (Nat.le_trans HB.out.size HF2.out.size) (fun k e => e.1))).trans (hF4.below (Nat.le_trans (Nat.le_trans HB.out.size HF2.out.size) hF3.size) (fun k e => by omega))
            clear hS4 hF4 hF3 a1 a2 a3 a4
            go_wp2
            refine ⟨⟨n + 1, by omega, by go_num, T ++ [R], ss', f', sz', _, _, by simp, HS4.out, HB4.out⟩, ?_⟩
            simp [intOf]; omega
        · have hok2 : rowModeB M = false := by simpa using hok
          rw [hok2]
          clear hok hok2
          go_wp2
          refine ⟨⟨n + 1, by omega, by go_num, T, ss, f, sz, cur, hs, rfl, HS.out.more (by omega), HB.out⟩, ?_⟩
          simp [intOf]; omega
      · go_wp2
        go_ret3
        exact ⟨n, T, ss, f, sz, cur, hs, hn, rfl, HS.out, HB.out, HS.out.tc.lt⟩
end Go.Proofs.Qxb6605852a
