import Derived.Test.Qxb6605818aFmtMapK
namespace Go.Proofs.Qxb6605818aFmt
open Go.RowKit Go.Maps
set_option linter.unusedVariables false

theorem info3 : (Tryf.prog.info? 3).map (fun i => (i.zero, i.size, i.bytes)) = some (some (.int .i64 0), 1, 8) := by kernel_rfl
theorem info4 : (Tryf.prog.info? 4).map (fun i => (i.zero, i.size, i.bytes)) = some (some (.bool false), 1, 1) := by kernel_rfl
theorem info9 : (Tryf.prog.info? 9).map (fun i => (i.zero, i.size, i.bytes)) = some (some (.string ⟨#[]⟩), 1, 16) := by kernel_rfl
theorem info23 : (Tryf.prog.info? 23).map (fun i => (i.zero, i.size, i.bytes)) = some (some (.slice none 0 0), 1, 24) := by kernel_rfl
theorem info32 : (Tryf.prog.info? 32).map (fun i => (i.zero, i.size, i.bytes)) = some (some (.slice none 0 0), 1, 24) := by kernel_rfl

theorem makeI (n : Nat) (h : n ≤ 2000000) (w : World) : (Instr.makeSlice 23 (.int .i64 (n : Int)) (.int .i64 (n : Int))).run Tryf.prog w = .ok (.slice (some ⟨w.heap.size, 0, none⟩) n n) (w.alloc (.cells (madeCells #[.int .i64 0] n) 3)) :=
  run_make_row' 23 3 _ _ Tryf.underlying23 info3 rfl .i64 .i64 n (by omega) (by omega) w
theorem makeB (n : Nat) (h : n ≤ 2000000) (w : World) : (Instr.makeSlice 32 (.int .i64 (n : Int)) (.int .i64 (n : Int))).run Tryf.prog w = .ok (.slice (some ⟨w.heap.size, 0, none⟩) n n) (w.alloc (.cells (madeCells #[.bool false] n) 4)) :=
  run_make_row' 32 4 _ _ Tryf.underlying32 info4 rfl .i64 .i64 n (by omega) (by omega) w
theorem makeS (n : Nat) (h : n ≤ 2000000) (w : World) : (Instr.makeSlice 22 (.int .i64 (n : Int)) (.int .i64 (n : Int))).run Tryf.prog w = .ok (.slice (some ⟨w.heap.size, 0, none⟩) n n) (w.alloc (.cells (madeCells #[.string ⟨#[]⟩] n) 9)) :=
  run_make_row' 22 9 _ _ Tryf.underlying22 info9 rfl .i64 .i64 n (by omega) (by omega) w
theorem makeII (n : Nat) (h : n ≤ 2000000) (w : World) : (Instr.makeSlice 24 (.int .i64 (n : Int)) (.int .i64 (n : Int))).run Tryf.prog w = .ok (.slice (some ⟨w.heap.size, 0, none⟩) n n) (w.alloc (.cells (madeCells #[.slice none 0 0] n) 23)) :=
  run_make_row' 24 23 _ _ Tryf.underlying24 info23 rfl .i64 .i64 n (by omega) (by omega) w
theorem makeMapN (t kt et : TypeId) (n : Nat) (ht : Tryf.prog.underlying t = some (.map kt et)) (w : World) : (Instr.makeMap t (some (.int .i64 (n : Int)))).run Tryf.prog w = .ok (.map (some w.heap.size)) (w.alloc (.map #[] 0)) := by
  simp [Instr.makeMap, run_underlying ht, asInt, Result.andThen]
  rfl

/-! ### distinct -/
def Distinct (s : Nat → ByteArray) (n : Nat) : Prop := ∀ i j, i < n → j < n → s i = s j → i = j

set_option maxHeartbeats 600000 in
theorem distinct_any (a : Option Addr) (len cap : Nat) (s : Nat → ByteArray) (w : World) (hl : len ≤ 2000000) (h : Sl w a len (strV s)) (hk : ∀ i, i < len → strKey (s i)) :
    Calls Tryf.prog 25 #[.slice a len cap] w fun e w' => BoolIf e (Distinct s len) ∧ Below w.heap.size w w' := by
  have H : Hid (Sl w a len (strV s)) := h
  have HK : Hid (∀ i, i < len → strKey (s i)) := hk
  have hli : (len : Int) ≤ 2000000 := by omega
  have hmk := fun w => makeMapN 86 9 4 len u86 w
  clear h hk
  go_enter Tryf.func25, Tryf.ntmps25
  go_wp2
  go_loopw [11] (fun i wr => ∃ k : Nat, k ≤ len ∧ i = .int .i64 k ∧ ∃ f hs, Hid (MapK Value.string strKey 9 (.bool false) wr w.heap.size k f hs) ∧ Hid (∀ x, f x = .bool (inStr s x k)) ∧ Hid (Distinct s k) ∧ Hid (Below w.heap.size w wr)) (fun i _ => len - (intOf i).toNat)
  case atStart =>
    refine ⟨0, Nat.zero_le _, rfl, _, _, MapK.made w strKey_ok, fun x => rfl, fun i j hi => absurd hi (by omega), (Below.refl _ _).alloc (Nat.le_refl _) _⟩
  case round =>
    obtain ⟨k, hkl, rfl, f, hs, HM, HF, HD, HB⟩ := hrel
    by_cases hlt : k < len
    · obtain ⟨y, hy, hc⟩ := H.out k hlt
      subst hy
      have hc' : wr.cell? (y.add k) = some (.string (s k)) := (HB.out.cell (cell_lt hc)).trans hc
      obtain ⟨t, ht⟩ : ∃ t, s k = t := ⟨_, rfl⟩
      have htk : strKey t := ht ▸ HK.out k hlt
      rw [ht] at hc'
      have HT : Hid (s k = t) := ht
      have hlk := HM.out.look law9 u86 (zero4 wr) t htk
      rw [HF.out t] at hlk
      have hlti : (k : Int) < (len : Int) := by omega
      obtain ⟨w2, hput, hM2, hF2⟩ := HM.out.put law9 str_inj u86 (by unfold maxLen; omega) t htk (.bool true)
      have HM2 : Hid (MapK Value.string strKey 9 (.bool false) w2 w.heap.size (k + 1) (upd f t (.bool true)) (upd hs t true)) := hM2
      have HF2 : Hid (Foot (fun k => k = w.heap.size) wr w2) := hF2
      clear hc ht hM2 hF2
      cases hin : inStr s t k
      · rw [hin] at hlk
        have HIN : Hid (inStr s t k = false) := hin
        clear hin
        go_wp2
        refine ⟨⟨k + 1, by omega, by go_num, _, _, HM2, fun x => ?_, fun i j hi hj e => ?_, HB.out.trans (HF2.out.below HB.out.size (fun k e => by omega))⟩, ?_⟩
        · by_cases e : x = t
          · subst e
            rw [upd_same]
            have : inStr s x (k + 1) = true := (inStr_iff s x (k + 1)).2 ⟨k, by omega, HT.out⟩
            rw [this]
          · rw [upd_other _ _ e, HF.out x]
            show _ = Value.bool (inStr s x k || decide (s k = x))
            rw [HT.out]
            have : decide (t = x) = false := by simp; exact fun h => e h.symm
            rw [this, Bool.or_false]
        · have key : ∀ i, i < k → s i ≠ t := fun i hi e => by
            have := (inStr_iff s t k).2 ⟨i, hi, e⟩
            rw [HIN.out] at this
            exact absurd this (by simp)
          by_cases hik : i = k
          · by_cases hjk : j = k
            · omega
            · subst hik
              rw [HT.out] at e
              exact absurd e.symm (key j (by omega))
          · by_cases hjk : j = k
            · subst hjk
              rw [HT.out] at e
              exact absurd e (key i (by omega))
            · exact HD.out i j (by omega) (by omega) e
        · simp [intOf]; omega
      · rw [hin] at hlk
        clear hin
        go_wp2
        go_ret
        exact ⟨⟨_, rfl, fun h => absurd h (by simp)⟩, HB.out⟩
    · obtain rfl : k = len := by omega
      go_wp2
      go_ret
      exact ⟨⟨_, rfl, fun _ => HD.out⟩, HB.out⟩
end Go.Proofs.Qxb6605818aFmt
