import Derived.Test.Qxb6605818aFmtMask
import Derived.Laws.CopyOwn
namespace Go.Proofs.Qxb6605818aFmt
open Go.RowKit Go.Maps
set_option linter.unusedVariables false

set_option maxHeartbeats 600000 in
theorem distinctNonEmpty_any (a : Option Addr) (len cap : Nat) (s : Nat → ByteArray) (w : World) (hl : len ≤ 2000000) (h : Sl w a len (strV s)) (hk : ∀ i, i < len → strKey (s i)) :
    Calls Tryf.prog 18 #[.slice a len cap] w fun e w' => BoolIf e (Distinct s len) ∧ Below w.heap.size w w' := by
  have H : Hid (Sl w a len (strV s)) := h
  have HC : Hid (Calls Tryf.prog 25 #[.slice a len cap] w fun e w' => BoolIf e (Distinct s len) ∧ Below w.heap.size w w') := distinct_any a len cap s w hl h hk
  have hli : (len : Int) ≤ 2000000 := by omega
  clear h hk
  go_enter Tryf.func18, Tryf.ntmps18
  go_wp2
  go_loop [7] (fun i => ∃ k : Nat, k ≤ len ∧ i = .int .i64 k) (fun i => len - (intOf i).toNat)
  case atStart => exact ⟨0, Nat.zero_le _, rfl⟩
  case round =>
    obtain ⟨k, hk, rfl⟩ := hrel
    by_cases hlt : k < len
    · obtain ⟨y, hy, hc⟩ := H.out k hlt
      subst hy
      have hc' : w.cell? (y.add k) = some (.string (s k)) := hc
      obtain ⟨t, ht⟩ : ∃ t, s k = t := ⟨_, rfl⟩
      rw [ht] at hc'
      have hlti : (k : Int) < (len : Int) := by omega
      clear hc ht
      by_cases he : t = ⟨#[]⟩
      · subst he
        go_wp2
        go_ret
        exact ⟨⟨_, rfl, fun h => absurd h (by simp)⟩, Below.refl _ _⟩
      · have h1 := str_ne he
        have h2 : t.toList ≠ [] := fun e => by
          rw [ByteArray.toList_eq] at e
          exact he (WideShapes.bytes_inj e)
        have h3 : t.toList.isEmpty = false := by simpa using h2
        go_wp2
        refine ⟨⟨k + 1, by omega, by go_num⟩, ?_⟩
        simp [intOf]; omega
    · obtain rfl : k = len := by omega
      go_wp2_with fail
      refine Calls.mono HC.out ?_
      rintro e w' ⟨⟨b, rfl, hb⟩, hB⟩
      have HBB : Hid (b = true → Distinct s k) := hb
      have HB : Hid (Below w.heap.size w w') := hB
      clear hb hB
      go_wp2
      go_ret
      exact ⟨⟨b, rfl, HBB.out⟩, HB.out⟩

/-! ### masks -/
/-- Is x among the first k? -/
def inInt (z : Nat → Int) (x : Nat) : Nat → Bool
  | 0 => false
  | k + 1 => inInt z x k || decide (z k = x)
theorem inInt_iff (z : Nat → Int) (x n : Nat) : inInt z x n = true ↔ ∃ i, i < n ∧ z i = x := by
  induction n with
  | zero => simp [inInt]
  | succ n ih =>
    simp only [inInt, Bool.or_eq_true, ih, decide_eq_true_eq]
    constructor
    · rintro (⟨i, h1, h2⟩ | h)
      · exact ⟨i, by omega, h2⟩
      · exact ⟨n, by omega, h⟩
    · rintro ⟨i, h1, h2⟩
      by_cases e : i = n
      · subst e; exact .inr h2
      · exact .inl ⟨i, by omega, h2⟩
def DistinctI (z : Nat → Int) (n : Nat) : Prop := ∀ i j, i < n → j < n → z i = z j → i = j

/-- What memberMask gives. -/
def MaskOut (B n : Nat) (z : Nat → Int) (len : Nat) (e : Ending) (w' : World) : Prop :=
  (e = .returned (.slice none 0 0) ∧ ¬ (allIn n z len ∧ DistinctI z len)) ∨ (e = .returned (.slice (some ⟨B, 0, none⟩) n n) ∧ w'.rowIs B 4 n (boolV fun i => inInt z i len) ∧ allIn n z len ∧ DistinctI z len)

theorem mask_set {w : World} {B n k t : Nat} {z : Nat → Int} (h : w.rowIs B 4 n (boolV fun i => inInt z i k)) (hz : z k = t) : (w.setCell ⟨B, t, none⟩ (.bool true)).rowIs B 4 n (boolV fun i => inInt z i (k + 1)) := by
  refine (h.set t (.bool true)).congr (fun i hi => ?_)
  show (if i = t then Value.bool true else Value.bool (inInt z i k)) = Value.bool (inInt z i k || decide (z k = i))
  rw [hz]
  by_cases e : i = t
  · subst e; simp
  · rw [if_neg e]
    have : decide ((t : Int) = (i : Int)) = false := by simp; omega
    rw [this, Bool.or_false]

set_option maxHeartbeats 600000 in
theorem memberMask_any (n : Nat) (a : Option Addr) (len cap : Nat) (z : Nat → Int) (w : World) (hn : n ≤ 2000000) (hl : len ≤ 2000000) (h : Sl w a len (intV z)) :
    Calls Tryf.prog 11 #[.int .i64 n, .slice a len cap] w fun e w' => MaskOut w.heap.size n z len e w' ∧ Below w.heap.size w w' := by
  have H : Hid (Sl w a len (intV z)) := h
  have hli : (len : Int) ≤ 2000000 := by omega
  have hni : (n : Int) ≤ 2000000 := by omega
  have hmk := fun w => makeB n hn w
  clear h
  go_enter Tryf.func11, Tryf.ntmps11
  go_wp2
  go_loopw [12] (fun i wr => ∃ k : Nat, k ≤ len ∧ i = .int .i64 k ∧ Hid (wr.rowIs w.heap.size 4 n (boolV fun i => inInt z i k)) ∧ Hid (allIn n z k ∧ DistinctI z k) ∧ Hid (Below w.heap.size w wr)) (fun i _ => len - (intOf i).toNat)
  case atStart =>
    exact ⟨0, Nat.zero_le _, rfl, World.rowIs_made w (.bool false) n 4, ⟨fun i hi => absurd hi (by omega), fun i j hi => absurd hi (by omega)⟩, (Below.refl _ _).alloc (Nat.le_refl _) _⟩
  case round =>
    obtain ⟨k, hk, rfl, HR, HD, HB⟩ := hrel
    by_cases hlt : k < len
    · obtain ⟨y, hy, hc⟩ := H.out k hlt
      subst hy
      have hc' : wr.cell? (y.add k) = some (.int .i64 (z k)) := (HB.out.cell (cell_lt hc)).trans hc
      obtain ⟨t, ht⟩ : ∃ t, z k = t := ⟨_, rfl⟩
      rw [ht] at hc'
      have HT : Hid (z k = t) := ht
      have hlti : (k : Int) < (len : Int) := by omega
      clear hc ht
      by_cases h1 : t < 0
      · go_wp2
        go_ret
        exact ⟨.inl ⟨rfl, fun h => by have := (h.1 k hlt).1; rw [HT.out] at this; omega⟩, HB.out⟩
      · by_cases h2 : t < n
        · obtain ⟨m, hm⟩ : ∃ m : Nat, t = m := ⟨t.toNat, by omega⟩
          subst hm
          have h2' : ¬ (m : Int) ≥ (n : Int) := by omega
          have hmn : m < n := by omega
          have hcm : wr.cell? ⟨w.heap.size, m, none⟩ = some (.bool (inInt z m k)) := HR.out.cell hmn
          have hfz := HR.out.frozen m
          cases hin : inInt z m k
          · rw [hin] at hcm
            have HIN : Hid (inInt z m k = false) := hin
            clear hin
            go_wp2
            refine ⟨⟨k + 1, by omega, by go_num, mask_set HR.out HT.out, ⟨fun i hi => ?_, fun i j hi hj e => ?_⟩, HB.out.setCell (Nat.le_refl _) _⟩, ?_⟩
            · by_cases e : i = k
              · subst e; rw [HT.out]; omega
              · exact HD.out.1 i (by omega)
            · have key : ∀ i, i < k → z i ≠ (m : Int) := fun i hi e => by
                have := (inInt_iff z m k).2 ⟨i, hi, e⟩
                rw [HIN.out] at this
                exact absurd this (by simp)
              by_cases hik : i = k
              · by_cases hjk : j = k
                · omega
                · subst hik
                  rw [HT.out] at e
                  exact absurd e.symm (key j (by omega))
              · by_cases hjk : j = k
                · subst hjk
                  rw [HT.out] at e
                  exact absurd e (key i (by omega))
                · exact HD.out.2 i j (by omega) (by omega) e
            · simp [intOf]; omega
          · rw [hin] at hcm
            have HIN : Hid (inInt z m k = true) := hin
            clear hin
            go_wp2
            go_ret
            refine ⟨.inl ⟨rfl, fun h => ?_⟩, HB.out⟩
            obtain ⟨i, hi, e⟩ := (inInt_iff z m k).1 HIN.out
            have := h.2 i k (by omega) hlt (by rw [e, HT.out])
            omega
        · have h2' : t ≥ (n : Int) := by omega
          go_wp2
          go_ret
          exact ⟨.inl ⟨rfl, fun h => by have := (h.1 k hlt).2; rw [HT.out] at this; omega⟩, HB.out⟩
    · obtain rfl : k = len := by omega
      go_wp2
      go_ret
      exact ⟨.inr ⟨rfl, HR.out, HD.out⟩, HB.out⟩

set_option maxHeartbeats 600000 in
theorem mark_any (n : Nat) (a : Option Addr) (len cap : Nat) (z : Nat → Int) (w : World) (hn : n ≤ 2000000) (hl : len ≤ 2000000) (h : Sl w a len (intV z)) (hin : allIn n z len) :
    Calls Tryf.prog 16 #[.int .i64 n, .slice a len cap] w fun e w' => e = .returned (.slice (some ⟨w.heap.size, 0, none⟩) n n) ∧ w'.rowIs w.heap.size 4 n (boolV fun i => inInt z i len) ∧ Below w.heap.size w w' := by
  have H : Hid (Sl w a len (intV z)) := h
  have HI : Hid (allIn n z len) := hin
  have hli : (len : Int) ≤ 2000000 := by omega
  have hni : (n : Int) ≤ 2000000 := by omega
  have hmk := fun w => makeB n hn w
  clear h hin
  go_enter Tryf.func16, Tryf.ntmps16
  go_wp2
  go_loopw [12] (fun i wr => ∃ k : Nat, k ≤ len ∧ i = .int .i64 k ∧ Hid (wr.rowIs w.heap.size 4 n (boolV fun i => inInt z i k)) ∧ Hid (Below w.heap.size w wr)) (fun i _ => len - (intOf i).toNat)
  case atStart =>
    exact ⟨0, Nat.zero_le _, rfl, World.rowIs_made w (.bool false) n 4, (Below.refl _ _).alloc (Nat.le_refl _) _⟩
  case round =>
    obtain ⟨k, hk, rfl, HR, HB⟩ := hrel
    by_cases hlt : k < len
    · obtain ⟨y, hy, hc⟩ := H.out k hlt
      subst hy
      have hc' : wr.cell? (y.add k) = some (.int .i64 (z k)) := (HB.out.cell (cell_lt hc)).trans hc
      obtain ⟨h1, h2⟩ := HI.out k hlt
      obtain ⟨m, hm⟩ : ∃ m : Nat, z k = m := ⟨(z k).toNat, by omega⟩
      rw [hm] at hc' h1 h2
      have HT : Hid (z k = m) := hm
      have hlti : (k : Int) < (len : Int) := by omega
      have hmn : m < n := by omega
      have hcm : wr.cell? ⟨w.heap.size, m, none⟩ = some (.bool (inInt z m k)) := HR.out.cell hmn
      have hfz := HR.out.frozen m
      clear hc hm
      go_wp2
      refine ⟨⟨k + 1, by omega, by go_num, mask_set HR.out HT.out, HB.out.setCell (Nat.le_refl _) _⟩, ?_⟩
      simp [intOf]; omega
    · obtain rfl : k = len := by omega
      go_wp2
      go_ret
      exact ⟨rfl, HR.out, HB.out⟩

/-! ### positions -/
/-- How many of the first k are marked. -/
def rank (b : Nat → Bool) : Nat → Nat
  | 0 => 0
  | k + 1 => rank b k + if b k then 1 else 0
theorem rank_le (b : Nat → Bool) (k : Nat) : rank b k ≤ k := by
  induction k with
  | zero => exact Nat.le_refl _
  | succ k ih => simp only [rank]; split <;> omega
def place (b : Nat → Bool) (i : Nat) : Int := if b i then (rank b i : Int) else -1

set_option maxHeartbeats 600000 in
theorem positions_any (a : Option Addr) (len cap : Nat) (b : Nat → Bool) (w : World) (hl : len ≤ 2000000) (h : Sl w a len (boolV b)) :
    Calls Tryf.prog 12 #[.slice a len cap] w fun e w' => e = .returned (.tuple #[.slice (some ⟨w.heap.size, 0, none⟩) len len, .int .i64 (rank b len : Nat)]) ∧ w'.rowIs w.heap.size 3 len (intV (place b)) ∧ Below w.heap.size w w' := by
  have H : Hid (Sl w a len (boolV b)) := h
  have hli : (len : Int) ≤ 2000000 := by omega
  have hmk := fun w => makeI len hl w
  clear h
  go_enter Tryf.func12, Tryf.ntmps12
  go_wp2
  go_loopw [5, 6] (fun m i wr => ∃ k : Nat, k ≤ len ∧ i = .int .i64 k ∧ m = .int .i64 (rank b k : Nat) ∧ Hid (wr.rowIs w.heap.size 3 len (fun i => if i < k then .int .i64 (place b i) else .int .i64 0)) ∧ Hid (Below w.heap.size w wr)) (fun _ i _ => len - (intOf i).toNat)
  case atStart =>
    exact ⟨0, Nat.zero_le _, rfl, rfl, (World.rowIs_made w (.int .i64 0) len 3).congr (fun i hi => by simp), (Below.refl _ _).alloc (Nat.le_refl _) _⟩
  case round =>
    obtain ⟨k, hk, rfl, rfl, HR, HB⟩ := hrel
    by_cases hlt : k < len
    · obtain ⟨y, hy, hc⟩ := H.out k hlt
      subst hy
      have hc' : wr.cell? (y.add k) = some (.bool (b k)) := (HB.out.cell (cell_lt hc)).trans hc
      have hne : (y.add k).block ≠ w.heap.size := by have := cell_lt hc; omega
      have hlti : (k : Int) < (len : Int) := by omega
      have hcm := HR.out.cell hlt
      rw [if_neg (Nat.lt_irrefl k)] at hcm
      have hfz := HR.out.frozen k
      have hR1 := HR.out.set k (.int .i64 (-1))
      have hc1 : (wr.setCell ⟨w.heap.size, k, none⟩ (.int .i64 (-1))).cell? (y.add k) = some (.bool (b k)) := by rw [World.cell?_of_block (w := wr) (Below.heap_setCell _ _ _ _ hne)]; exact hc'
      have hcm1 := hR1.cell hlt
      rw [if_pos rfl] at hcm1
      have hfz1 := hR1.frozen k
      have hrk := rank_le b k
      obtain ⟨r, hr⟩ : ∃ r, rank b k = r := ⟨_, rfl⟩
      have HRK : Hid (rank b k = r) := hr
      rw [hr] at hrk ⊢
      have hri : (r : Int) ≤ 2000000 := by omega
      obtain ⟨w1, hw1⟩ : ∃ w1, wr.setCell ⟨w.heap.size, k, none⟩ (.int .i64 (-1)) = w1 := ⟨_, rfl⟩
      rw [hw1] at hR1 hc1 hcm1 hfz1
      have HW1 : Hid (w1 = wr.setCell ⟨w.heap.size, k, none⟩ (.int .i64 (-1))) := hw1.symm
      have HR1 : Hid (w1.rowIs w.heap.size 3 len (fun j => if j = k then .int .i64 (-1) else if j < k then .int .i64 (place b j) else .int .i64 0)) := hR1
      clear hc hr hR1
      cases hb : b k
      · rw [hb] at hc1
        have HBK : Hid (b k = false) := hb
        clear hb
        go_wp2
        refine ⟨⟨k + 1, by omega, by go_num, val_int ?_, ?_, ?_⟩, ?_⟩
        · have : rank b (k + 1) = r := by simp [rank, HBK.out, HRK.out]
          rw [this]
        · refine HR1.out.congr (fun i hi => ?_)
          by_cases e : i = k
          · subst e; simp [place, HBK.out]
          · rw [if_neg e]
            by_cases e2 : i < k
            · rw [if_pos e2, if_pos (by omega)]
            · rw [if_neg e2, if_neg (by omega)]
        · show Below _ _ _
          rw [HW1.out]
          exact HB.out.setCell (Nat.le_refl _) _
        · simp [intOf]; omega
      · rw [hb] at hc1
        have HBK : Hid (b k = true) := hb
        clear hb
        go_wp2
        refine ⟨⟨k + 1, by omega, by go_num, val_int ?_, ?_, ?_⟩, ?_⟩
        · have : rank b (k + 1) = r + 1 := by simp [rank, HBK.out, HRK.out]
          rw [this]; simp
        · refine (HR1.out.set k (.int .i64 (r : Int))).congr (fun i hi => ?_)
          by_cases e : i = k
          · subst e; simp [place, HBK.out, HRK.out]
          · rw [if_neg e, if_neg e]
            by_cases e2 : i < k
            · rw [if_pos e2, if_pos (by omega)]
            · rw [if_neg e2, if_neg (by omega)]
        · show Below _ _ _
          rw [HW1.out]
          exact (HB.out.setCell (Nat.le_refl _) _).setCell (Nat.le_refl _) _
        · simp [intOf]; omega
    · obtain rfl : k = len := by omega
      go_wp2
      go_ret2
      exact ⟨rfl, HR.out.congr (fun i hi => by rw [if_pos hi]; rfl), HB.out⟩
end Go.Proofs.Qxb6605818aFmt
