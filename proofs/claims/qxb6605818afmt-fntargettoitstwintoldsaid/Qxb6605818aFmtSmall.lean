import Derived.Test.Qxb6605818aFmtMem
namespace Go.Proofs.Qxb6605818aFmt
open Go.RowKit
set_option linter.unusedVariables false

/-- Slices as elements. -/
def sliV (a : Nat → Option Addr) (l c : Nat → Nat) : Nat → Value := fun i => .slice (a i) (l i) (c i)
def boolV (b : Nat → Bool) : Nat → Value := fun i => .bool (b i)

set_option maxHeartbeats 400000 in
theorem stringBytes_any (a : Option Addr) (len cap : Nat) (s : Nat → ByteArray) (w : World) (hl : len ≤ 2000000) (h : Sl w a len (strV s)) :
    Calls Tryf.prog 17 #[.slice a len cap] w fun e w' => (∃ z, e = .returned (.int .i64 z)) ∧ w' = w := by
  have H : Hid (Sl w a len (strV s)) := h
  have hli : (len : Int) ≤ 2000000 := by omega
  clear h
  go_enter Tryf.func17, Tryf.ntmps17
  go_wp2
  go_loop [3, 11] (fun t i => ∃ (k : Nat) (z : Int), k ≤ len ∧ i = .int .i64 k ∧ t = .int .i64 z) (fun _ i => len - (intOf i).toNat)
  case atStart => exact ⟨0, _, Nat.zero_le _, rfl, rfl⟩
  case round =>
    obtain ⟨k, z, hk, rfl, rfl⟩ := hrel
    by_cases hlt : k < len
    · obtain ⟨y, hy, hc⟩ := H.out k hlt
      subst hy
      have hc' : w.cell? (y.add k) = some (.string (s k)) := hc
      have hlti : (k : Int) < (len : Int) := by omega
      clear hc
      go_wp2
      refine ⟨⟨k + 1, _, by omega, by go_num, rfl⟩, ?_⟩
      simp [intOf]; omega
    · obtain rfl : k = len := by omega
      go_wp2
      go_ret
      exact ⟨⟨_, rfl⟩, rfl⟩

set_option maxHeartbeats 400000 in
theorem targetBytes_any (a0 a1 a2 a3 a4 a5 a6 a7 a8 : Option Addr) (len0 cap0 len1 cap1 len2 cap2 len3 cap3 len4 cap4 len5 cap5 len6 cap6 len7 cap7 len8 cap8 : Nat) (s : Nat → ByteArray) (pa qa : Nat → Option Addr) (pl pc ql qc : Nat → Nat) (w : World) (hl : len0 ≤ 2000000) (hl7 : len7 ≤ 2000000) (hl8 : len8 ≤ 2000000)
    (h : Sl w a0 len0 (strV s)) (h7 : Sl w a7 len7 (sliV pa pl pc)) (h8 : Sl w a8 len8 (sliV qa ql qc)) :
    Calls Tryf.prog 5 #[.slice a0 len0 cap0, .slice a1 len1 cap1, .slice a2 len2 cap2, .slice a3 len3 cap3, .slice a4 len4 cap4, .slice a5 len5 cap5, .slice a6 len6 cap6, .slice a7 len7 cap7, .slice a8 len8 cap8] w fun e w' => (∃ z, e = .returned (.int .i64 z)) ∧ w' = w := by
  have HC : Hid (Calls Tryf.prog 17 #[.slice a0 len0 cap0] w fun e w' => (∃ z, e = .returned (.int .i64 z)) ∧ w' = w) := stringBytes_any a0 len0 cap0 s w hl h
  have H7 : Hid (Sl w a7 len7 (sliV pa pl pc)) := h7
  have H8 : Hid (Sl w a8 len8 (sliV qa ql qc)) := h8
  have hl7i : (len7 : Int) ≤ 2000000 := by omega
  have hl8i : (len8 : Int) ≤ 2000000 := by omega
  clear h h7 h8
  go_enter Tryf.func5, Tryf.ntmps5
  go_wp2_with fail
  refine Calls.mono HC.out ?_
  rintro e w' ⟨⟨z0, rfl⟩, hw'⟩
  obtain rfl := hw'.symm
  go_wp2
  go_loop [19, 20] (fun t i => ∃ (k : Nat) (z : Int), k ≤ len7 ∧ i = .int .i64 k ∧ t = .int .i64 z) (fun _ i => len7 - (intOf i).toNat)
  case atStart => exact ⟨0, _, Nat.zero_le _, rfl, rfl⟩
  case round =>
    obtain ⟨k, z, hk, rfl, rfl⟩ := hrel
    by_cases hlt : k < len7
    · obtain ⟨y, hy, hc⟩ := H7.out k hlt
      subst hy
      have hc' : w.cell? (y.add k) = some (.slice (pa k) (pl k) (pc k)) := hc
      have hlti : (k : Int) < (len7 : Int) := by omega
      clear hc
      go_wp2
      refine ⟨⟨k + 1, _, by omega, by go_num, rfl⟩, ?_⟩
      simp [intOf]; omega
    · obtain rfl : k = len7 := by omega
      go_wp2
      go_loop [19, 21] (fun t i => ∃ (k : Nat) (z : Int), k ≤ len8 ∧ i = .int .i64 k ∧ t = .int .i64 z) (fun _ i => len8 - (intOf i).toNat)
      case atStart => exact ⟨0, _, Nat.zero_le _, rfl, rfl⟩
      case round =>
        obtain ⟨k, z, hk, rfl, rfl⟩ := hrel
        by_cases hlt : k < len8
        · obtain ⟨y, hy, hc⟩ := H8.out k hlt
          subst hy
          have hc' : w.cell? (y.add k) = some (.slice (qa k) (ql k) (qc k)) := hc
          have hlti : (k : Int) < (len8 : Int) := by omega
          clear hc
          go_wp2
          refine ⟨⟨k + 1, _, by omega, by go_num, rfl⟩, ?_⟩
          simp [intOf]; omega
        · obtain rfl : k = len8 := by omega
          go_wp2
          go_ret
          exact ⟨⟨_, rfl⟩, rfl⟩

set_option maxHeartbeats 400000 in
theorem targetWork_any (a0 a1 a2 a7 a8 : Option Addr) (len0 cap0 len1 cap1 len2 cap2 len7 cap7 len8 cap8 : Nat) (pa qa : Nat → Option Addr) (pl pc ql qc : Nat → Nat) (w : World) (hl7 : len7 ≤ 2000000) (hl8 : len8 ≤ 2000000)
    (h7 : Sl w a7 len7 (sliV pa pl pc)) (h8 : Sl w a8 len8 (sliV qa ql qc)) :
    Calls Tryf.prog 6 #[.slice a0 len0 cap0, .slice a1 len1 cap1, .slice a2 len2 cap2, .slice a7 len7 cap7, .slice a8 len8 cap8] w fun e w' => (∃ z, e = .returned (.int .i64 z)) ∧ w' = w := by
  have H7 : Hid (Sl w a7 len7 (sliV pa pl pc)) := h7
  have H8 : Hid (Sl w a8 len8 (sliV qa ql qc)) := h8
  have hl7i : (len7 : Int) ≤ 2000000 := by omega
  have hl8i : (len8 : Int) ≤ 2000000 := by omega
  clear h7 h8
  go_enter Tryf.func6, Tryf.ntmps6
  go_wp2
  go_loop [11, 12] (fun t i => ∃ (k : Nat) (z : Int), k ≤ len7 ∧ i = .int .i64 k ∧ t = .int .i64 z) (fun _ i => len7 - (intOf i).toNat)
  case atStart => exact ⟨0, _, Nat.zero_le _, rfl, rfl⟩
  case round =>
    obtain ⟨k, z, hk, rfl, rfl⟩ := hrel
    by_cases hlt : k < len7
    · obtain ⟨y, hy, hc⟩ := H7.out k hlt
      subst hy
      have hc' : w.cell? (y.add k) = some (.slice (pa k) (pl k) (pc k)) := hc
      have hlti : (k : Int) < (len7 : Int) := by omega
      clear hc
      go_wp2
      refine ⟨⟨k + 1, _, by omega, by go_num, rfl⟩, ?_⟩
      simp [intOf]; omega
    · obtain rfl : k = len7 := by omega
      go_wp2
      go_loop [11, 13] (fun t i => ∃ (k : Nat) (z : Int), k ≤ len8 ∧ i = .int .i64 k ∧ t = .int .i64 z) (fun _ i => len8 - (intOf i).toNat)
      case atStart => exact ⟨0, _, Nat.zero_le _, rfl, rfl⟩
      case round =>
        obtain ⟨k, z, hk, rfl, rfl⟩ := hrel
        by_cases hlt : k < len8
        · obtain ⟨y, hy, hc⟩ := H8.out k hlt
          subst hy
          have hc' : w.cell? (y.add k) = some (.slice (qa k) (ql k) (qc k)) := hc
          have hlti : (k : Int) < (len8 : Int) := by omega
          clear hc
          go_wp2
          refine ⟨⟨k + 1, _, by omega, by go_num, rfl⟩, ?_⟩
          simp [intOf]; omega
        · obtain rfl : k = len8 := by omega
          go_wp2
          go_ret
          exact ⟨⟨_, rfl⟩, rfl⟩

set_option maxHeartbeats 400000 in
theorem inMask_any (a : Option Addr) (len cap : Nat) (b : Nat → Bool) (z : Int) (w : World) (hl : len ≤ 2000000) (h : Sl w a len (boolV b)) :
    Calls Tryf.prog 19 #[.slice a len cap, .int .i64 z] w fun e w' => e = .returned (.bool (decide (0 ≤ z ∧ z < len) && b z.toNat)) ∧ w' = w := by
  have hli : (len : Int) ≤ 2000000 := by omega
  by_cases h0 : 0 ≤ z
  · obtain ⟨n, rfl⟩ : ∃ n : Nat, z = n := ⟨z.toNat, by omega⟩
    have g0 : (n : Int) ≥ 0 := h0
    by_cases h1 : n < len
    · obtain ⟨y, hy, hc⟩ := h n h1
      subst hy
      have hc' : w.cell? (y.add n) = some (.bool (b n)) := hc
      have g1 : (n : Int) < (len : Int) := by omega
      have HR : Hid ((decide (0 ≤ (n : Int) ∧ (n : Int) < len) && b ((n : Int)).toNat) = b n) := by
        show _ = _
        simp [h1]
      rw [HR.out]
      clear h hc h0 h1
      go_enter Tryf.func19, Tryf.ntmps19
      go_wp2
      go_ret
      exact ⟨rfl, rfl⟩
    · have g1 : ¬ (n : Int) < (len : Int) := by omega
      have HR : Hid ((decide (0 ≤ (n : Int) ∧ (n : Int) < len) && b ((n : Int)).toNat) = false) := by
        show _ = _
        simp [h1]
      rw [HR.out]
      clear h h0 h1
      go_enter Tryf.func19, Tryf.ntmps19
      go_wp2
      go_ret
      exact ⟨rfl, rfl⟩
  · have g0 : ¬ z ≥ 0 := by omega
    have HR : Hid ((decide (0 ≤ z ∧ z < len) && b z.toNat) = false) := by
      show _ = _
      simp [h0]
    rw [HR.out]
    clear h h0
    go_enter Tryf.func19, Tryf.ntmps19
    go_wp2
    go_ret
    exact ⟨rfl, rfl⟩

/-- A bool is returned; where it is true, P. -/
def BoolIf (e : Ending) (P : Prop) : Prop := ∃ b, e = .returned (.bool b) ∧ (b = true → P)

/-- All of the first k are below n. -/
def allIn (n : Nat) (z : Nat → Int) (k : Nat) : Prop := ∀ i, i < k → 0 ≤ z i ∧ z i < n

set_option maxHeartbeats 400000 in
theorem inRange_any (n : Nat) (a : Option Addr) (len cap : Nat) (z : Nat → Int) (w : World) (hl : len ≤ 2000000) (h : Sl w a len (intV z)) :
    Calls Tryf.prog 20 #[.int .i64 n, .slice a len cap] w fun e w' => BoolIf e (allIn n z len) ∧ w' = w := by
  have H : Hid (Sl w a len (intV z)) := h
  have hli : (len : Int) ≤ 2000000 := by omega
  clear h
  go_enter Tryf.func20, Tryf.ntmps20
  go_wp2
  go_loop [9] (fun i => ∃ k : Nat, k ≤ len ∧ i = .int .i64 k ∧ Hid (allIn n z k)) (fun i => len - (intOf i).toNat)
  case atStart => exact ⟨0, Nat.zero_le _, rfl, fun i hi => absurd hi (by omega)⟩
  case round =>
    obtain ⟨k, hk, rfl, HN⟩ := hrel
    by_cases hlt : k < len
    · obtain ⟨y, hy, hc⟩ := H.out k hlt
      subst hy
      have hc' : w.cell? (y.add k) = some (.int .i64 (z k)) := hc
      obtain ⟨t, ht⟩ : ∃ t, z k = t := ⟨_, rfl⟩
      rw [ht] at hc'
      have HT : Hid (z k = t) := ht
      have hlti : (k : Int) < (len : Int) := by omega
      clear hc ht
      by_cases h1 : t < 0
      · go_wp2
        go_ret
        exact ⟨⟨_, rfl, fun h => absurd h (by simp)⟩, rfl⟩
      · by_cases h2 : t < n
        · have h2' : ¬ t ≥ (n : Int) := by omega
          go_wp2
          refine ⟨⟨k + 1, by omega, by go_num, fun i hi => ?_⟩, ?_⟩
          · by_cases e : i = k
            · subst e; rw [HT.out]; omega
            · exact HN.out i (by omega)
          · simp [intOf]; omega
        · have h2' : t ≥ (n : Int) := by omega
          go_wp2
          go_ret
          exact ⟨⟨_, rfl, fun h => absurd h (by simp)⟩, rfl⟩
    · obtain rfl : k = len := by omega
      go_wp2
      go_ret
      exact ⟨⟨_, rfl, fun _ => HN.out⟩, rfl⟩
end Go.Proofs.Qxb6605818aFmt
