import Derived.Test.Qxb6605818aFmtSmall
namespace Go.Proofs.Qxb6605818aFmt
open Go.RowKit
set_option linter.unusedVariables false

/-- What the bound on lengths leaves. -/
def Fits (s : Nat → ByteArray) (pl ql : Nat → Nat) (len0 len4 len5 : Nat) : Prop := (∀ i, i < len0 → (s i).size ≤ 1048576) ∧ (∀ i, i < len4 → pl i ≤ 1048576) ∧ ∀ i, i < len5 → ql i ≤ 1048576

set_option maxRecDepth 100000 in
set_option maxHeartbeats 2000000 in
theorem zzBytes_any (a0 a1 a2 a3 a4 a5 : Option Addr) (len0 cap0 len1 cap1 len2 cap2 len3 cap3 len4 cap4 len5 cap5 : Nat) (s : Nat → ByteArray) (pa qa : Nat → Option Addr) (pl pc ql qc : Nat → Nat) (w : World)
    (h0 : Sl w a0 len0 (strV s)) (h4 : Sl w a4 len4 (sliV pa pl pc)) (h5 : Sl w a5 len5 (sliV qa ql qc)) :
    Calls Tryf.prog 4 #[.slice a0 len0 cap0, .slice a1 len1 cap1, .slice a2 len2 cap2, .slice a3 len3 cap3, .slice a4 len4 cap4, .slice a5 len5 cap5] w fun e w' => BoolIf e (Fits s pl ql len0 len4 len5) ∧ w' = w := by
  have H0 : Hid (Sl w a0 len0 (strV s)) := h0
  have H4 : Hid (Sl w a4 len4 (sliV pa pl pc)) := h4
  have H5 : Hid (Sl w a5 len5 (sliV qa ql qc)) := h5
  clear h0 h4 h5
  go_enter Tryf.func4, Tryf.ntmps4
  by_cases q0 : (len0 : Int) > 1048576
  · go_wp2
    go_ret
    exact ⟨⟨_, rfl, fun h => absurd h (by simp)⟩, rfl⟩
  go_wp2
  go_loop [13, 14] (fun t i => ∃ (k : Nat) (z : Int), k ≤ len0 ∧ i = .int .i64 k ∧ t = .int .i64 z ∧ 0 ≤ z ∧ z ≤ 1048576 ∧ Hid (∀ i, i < k → (s i).size ≤ 1048576)) (fun _ i => len0 - (intOf i).toNat)
  case atStart => exact ⟨0, _, Nat.zero_le _, rfl, rfl, by omega, by omega, fun i hi => absurd hi (by omega)⟩
  case round =>
    obtain ⟨k, z, hk, rfl, rfl, z0, z1, HK0⟩ := hrel
    by_cases hlt : k < len0
    · obtain ⟨y, hy, hc⟩ := H0.out k hlt
      subst hy
      have hc' : w.cell? (y.add k) = some (.string (s k)) := hc
      obtain ⟨t, ht⟩ : ∃ t, s k = t := ⟨_, rfl⟩
      rw [ht] at hc'
      have HT : Hid (s k = t) := ht
      have hlti : (k : Int) < (len0 : Int) := by omega
      clear hc ht
      by_cases h1 : (t.size : Int) > 1048576
      · go_wp2
        go_ret
        exact ⟨⟨_, rfl, fun h => absurd h (by simp)⟩, rfl⟩
      by_cases h2 : z + (t.size : Int) > 1048576
      · go_wp2
        go_ret
        exact ⟨⟨_, rfl, fun h => absurd h (by simp)⟩, rfl⟩
      go_wp2
      refine ⟨⟨k + 1, _, by omega, by go_num, rfl, by omega, by omega, fun i hi => ?_⟩, ?_⟩
      · by_cases e : i = k
        · subst e; rw [HT.out]; omega
        · exact HK0.out i (by omega)
      · simp [intOf]; omega
    · obtain rfl : k = len0 := by omega
      by_cases glen1 : (len1 : Int) > 1048576
      · go_wp2
        go_ret
        exact ⟨⟨_, rfl, fun h => absurd h (by simp)⟩, rfl⟩
      by_cases gz1 : z + (len1 : Int) > 1048576
      · go_wp2
        go_ret
        exact ⟨⟨_, rfl, fun h => absurd h (by simp)⟩, rfl⟩
      by_cases glen2 : (len2 : Int) > 1048576
      · go_wp2
        go_ret
        exact ⟨⟨_, rfl, fun h => absurd h (by simp)⟩, rfl⟩
      by_cases gz2 : z + (len1 : Int) + (len2 : Int) > 1048576
      · go_wp2
        go_ret
        exact ⟨⟨_, rfl, fun h => absurd h (by simp)⟩, rfl⟩
      by_cases glen3 : (len3 : Int) > 1048576
      · go_wp2
        go_ret
        exact ⟨⟨_, rfl, fun h => absurd h (by simp)⟩, rfl⟩
      by_cases gz3 : z + (len1 : Int) + (len2 : Int) + (len3 : Int) > 1048576
      · go_wp2
        go_ret
        exact ⟨⟨_, rfl, fun h => absurd h (by simp)⟩, rfl⟩
      by_cases glen4 : (len4 : Int) > 1048576
      · go_wp2
        go_ret
        exact ⟨⟨_, rfl, fun h => absurd h (by simp)⟩, rfl⟩
      by_cases gz4 : z + (len1 : Int) + (len2 : Int) + (len3 : Int) + (len4 : Int) > 1048576
      · go_wp2
        go_ret
        exact ⟨⟨_, rfl, fun h => absurd h (by simp)⟩, rfl⟩
      go_wp2
      go_loop [13, 15] (fun t i => ∃ (k : Nat) (z : Int), k ≤ len4 ∧ i = .int .i64 k ∧ t = .int .i64 z ∧ 0 ≤ z ∧ z ≤ 1048576 ∧ Hid (∀ i, i < k → pl i ≤ 1048576)) (fun _ i => len4 - (intOf i).toNat)
      case atStart => exact ⟨0, _, Nat.zero_le _, rfl, rfl, by omega, by omega, fun i hi => absurd hi (by omega)⟩
      case round =>
        obtain ⟨k, u, hk, rfl, rfl, u0, u1, HK4⟩ := hrel
        by_cases hlt : k < len4
        · obtain ⟨y, hy, hc⟩ := H4.out k hlt
          subst hy
          have hc' : w.cell? (y.add k) = some (.slice (pa k) (pl k) (pc k)) := hc
          obtain ⟨t, ht⟩ : ∃ t, pl k = t := ⟨_, rfl⟩
          rw [ht] at hc'
          have HT : Hid (pl k = t) := ht
          have hlti : (k : Int) < (len4 : Int) := by omega
          clear hc ht
          by_cases h1 : (t : Int) > 1048576
          · go_wp2
            go_ret
            exact ⟨⟨_, rfl, fun h => absurd h (by simp)⟩, rfl⟩
          by_cases h2 : u + (t : Int) > 1048576
          · go_wp2
            go_ret
            exact ⟨⟨_, rfl, fun h => absurd h (by simp)⟩, rfl⟩
          go_wp2
          refine ⟨⟨k + 1, _, by omega, by go_num, rfl, by omega, by omega, fun i hi => ?_⟩, ?_⟩
          · by_cases e : i = k
            · subst e; rw [HT.out]; omega
            · exact HK4.out i (by omega)
          · simp [intOf]; omega
        · obtain rfl : k = len4 := by omega
          by_cases glen5 : (len5 : Int) > 1048576
          · go_wp2
            go_ret
            exact ⟨⟨_, rfl, fun h => absurd h (by simp)⟩, rfl⟩
          by_cases gz5 : u + (len5 : Int) > 1048576
          · go_wp2
            go_ret
            exact ⟨⟨_, rfl, fun h => absurd h (by simp)⟩, rfl⟩
          go_wp2
          go_loop [13, 16] (fun t i => ∃ (k : Nat) (z : Int), k ≤ len5 ∧ i = .int .i64 k ∧ t = .int .i64 z ∧ 0 ≤ z ∧ z ≤ 1048576 ∧ Hid (∀ i, i < k → ql i ≤ 1048576)) (fun _ i => len5 - (intOf i).toNat)
          case atStart => exact ⟨0, _, Nat.zero_le _, rfl, rfl, by omega, by omega, fun i hi => absurd hi (by omega)⟩
          case round =>
            obtain ⟨k, v, hk, rfl, rfl, v0, v1, HK5⟩ := hrel
            by_cases hlt : k < len5
            · obtain ⟨y, hy, hc⟩ := H5.out k hlt
              subst hy
              have hc' : w.cell? (y.add k) = some (.slice (qa k) (ql k) (qc k)) := hc
              obtain ⟨t, ht⟩ : ∃ t, ql k = t := ⟨_, rfl⟩
              rw [ht] at hc'
              have HT : Hid (ql k = t) := ht
              have hlti : (k : Int) < (len5 : Int) := by omega
              clear hc ht
              by_cases h1 : (t : Int) > 1048576
              · go_wp2
                go_ret
                exact ⟨⟨_, rfl, fun h => absurd h (by simp)⟩, rfl⟩
              by_cases h2 : v + (t : Int) > 1048576
              · go_wp2
                go_ret
                exact ⟨⟨_, rfl, fun h => absurd h (by simp)⟩, rfl⟩
              go_wp2
              refine ⟨⟨k + 1, _, by omega, by go_num, rfl, by omega, by omega, fun i hi => ?_⟩, ?_⟩
              · by_cases e : i = k
                · subst e; rw [HT.out]; omega
                · exact HK5.out i (by omega)
              · simp [intOf]; omega
            · obtain rfl : k = len5 := by omega
              go_wp2
              go_ret
              exact ⟨⟨_, rfl, fun _ => ⟨HK0.out, HK4.out, HK5.out⟩⟩, rfl⟩
end Go.Proofs.Qxb6605818aFmt
