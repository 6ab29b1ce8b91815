import Derived.Test.Qxb6605919aDoorRows
import Derived.Test.Qxb6605919aDoorNum
import Derived.Test.Qxb6605919aDoorShelf
import Derived.WalkKit
import Derived.WalkSpells
import Derived.WalkLawsBesides
import Derived.Deep.QuietTactic
import Derived.BigQuiet
import Derived.Lib.SmallJoins
namespace Go.Proofs.Qxb6605919aDoor.Rc
open Go.RowKit Num
set_option linter.unusedVariables false

theorem take_snoc (s : ByteArray) (k : Nat) (h : k < s.size) : s.data.toList.take (k + 1) = s.data.toList.take k ++ [s[k]] := by
  rw [List.take_succ_eq_append_getElem (by simpa using h)]; rfl


/-- The value of the digits at places a to k. -/
def segV (s : ByteArray) (a k : Nat) : Nat := valA 0 ((s.data.toList.drop a).take (k - a))

theorem segV_start (s : ByteArray) (a : Nat) : segV s a a = 0 := by unfold segV; simp [val_nil]

theorem segV_bound (s : ByteArray) (a k : Nat) (hd : ∀ j (h : j < s.size), a ≤ j → IsDig s[j]) (hn : k - a ≤ 19) : segV s a k < 10000000000000000000 := by
  unfold segV
  have h := val_lt ((s.data.toList.drop a).take (k - a)) (fun c hc => by
    have hc' := List.mem_of_mem_take hc
    obtain ⟨j, hj, rfl⟩ := List.getElem_of_mem hc'
    rw [List.getElem_drop]
    have hj' : a + j < s.size := by simp at hj; have : s.size = s.data.size := rfl; omega
    exact hd (a + j) hj' (by omega))
  have h2 : ((s.data.toList.drop a).take (k - a)).length ≤ 19 := by simp; omega
  have h3 := Nat.pow_le_pow_right (n := 10) (by omega) h2
  have h4 : (10 : Nat) ^ 19 = 10000000000000000000 := by decide
  omega

theorem segV_step (s : ByteArray) (a k : Nat) (ha : a ≤ k) (hk : k < s.size) :
    segV s a (k + 1) = 10 * segV s a k + (s[k].toNat - 48) := by
  unfold segV
  have e : (s.data.toList.drop a).take (k + 1 - a) = (s.data.toList.drop a).take (k - a) ++ [s[k]] := by
    rw [show k + 1 - a = (k - a) + 1 by omega]
    rw [List.take_succ_eq_append_getElem (by simp; have : s.size = s.data.size := rfl; omega)]
    congr 2
    rw [List.getElem_drop]
    have : a + (k - a) = k := by omega
    simp only [this]
    rfl
  rw [e, valA_snoc]

theorem segV_end (s : ByteArray) (a k : Nat) (h : ¬ k < s.size) : segV s a k = valA 0 (s.data.toList.drop a) := by
  unfold segV
  rw [List.take_of_length_le]
  simp
  have : s.size = s.data.size := rfl
  omega

theorem step_u64 (V c N : Nat) (hc : 48 ≤ c) (hc' : c ≤ 57) (hN : N = 10 * V + (c - 48)) (hlt : N < 10000000000000000000) :
    IntKind.u64.wrap (IntKind.u64.wrap ((V : Int) * 10) + ((c : Int) - 48)) = (N : Int) := by
  rw [IntKind.wrap_u64, IntKind.wrap_u64]
  omega

theorem ret3 {a b : Bool} {x y : Int} (h : x = y) : Ending.returned (.tuple #[.bool a, .int .u64 x, .bool b]) = .returned (.tuple #[.bool a, .int .u64 y, .bool b]) := by rw [h]

theorem val_u64 {k : IntKind} {x y : Int} (h : x = y) : Value.int k x = .int k y := by rw [h]

set_option maxHeartbeats 400000 in
theorem parse_pos (s : ByteArray) (w : World) (hd : ∀ k (h : k < s.size), 0 ≤ k → IsDig s[k]) (h1 : 1 ≤ s.size) (h19 : s.size ≤ 19) (hz : s.size = 1 ∨ s[0].toNat ≠ 48) :
    Calls Tryd.prog 6 #[.string s] w fun e w' => e = .returned (.tuple #[.bool false, .int .u64 (valA 0 s.data.toList), .bool true]) ∧ w' = w := by
  have hd0 := hd 0 h1 (Nat.le_refl _)
  unfold IsDig at hd0
  have h10 : (0 : Int) < (s.size : Int) := by omega
  have hq : ((s[0].toNat : Int) == 45) = false := beq_eq_false_iff_ne.2 (by omega)
  have h20 : ¬ (s.size : Int) < 1 := by omega
  have h21 : ¬ 19 < (s.size : Int) := by omega
  have HD : Hid (∀ k (h : k < s.size), 0 ≤ k → IsDig s[k]) := hd
  clear hd
  go_enter Tryd.func6, Tryd.ntmps6
  go_wp2
  all_goals
    go_loop [5, 8] (fun i m => ∃ k : Nat, k ≤ s.size ∧ i = .int .i64 k ∧ m = .int .u64 (segV s 0 k : Nat)) (fun i _ => s.size - (intOf i).toNat)
    case atStart => exact ⟨0, Nat.zero_le _, rfl, val_u64 (by rw [segV_start]; rfl)⟩
    case round =>
      obtain ⟨k, hk, rfl, rfl⟩ := hrel
      by_cases hlt : k < s.size
      · have hdk := HD.out k hlt (Nat.zero_le _)
        unfold IsDig at hdk
        have hdk1 : (48 : Int) ≤ (s[k].toNat : Int) := by omega
        have hdk2 : (s[k].toNat : Int) ≤ 57 := by omega
        have HS : Hid _ := segV_step s 0 k (Nat.zero_le _) hlt
        have HB : Hid _ := segV_bound s 0 (k + 1) HD.out (by omega)
        go_wp2
        refine ⟨⟨k + 1, by omega, by go_num, val_u64 (step_u64 _ _ _ hdk.1 hdk.2 HS.out HB.out)⟩, ?_⟩
        simp [intOf]; omega
      · go_wp2
        go_ret3
        exact ⟨ret3 (by rw [segV_end s 0 k hlt]; rfl), rfl⟩

set_option maxHeartbeats 400000 in
theorem parse_neg (s : ByteArray) (w : World) (hm : 0 < s.size) (hm0 : s[0].toNat = 45) (hd : ∀ k (h : k < s.size), 1 ≤ k → IsDig s[k]) (h1 : 2 ≤ s.size) (h19 : s.size ≤ 20) (hz : s[1].toNat ≠ 48) :
    Calls Tryd.prog 6 #[.string s] w fun e w' => e = .returned (.tuple #[.bool true, .int .u64 (valA 0 (s.data.toList.drop 1)), .bool true]) ∧ w' = w := by
  have hd1 := hd 1 h1 (Nat.le_refl _)
  unfold IsDig at hd1
  have h10 : (0 : Int) < (s.size : Int) := by omega
  have hq : ((s[0].toNat : Int) == 45) = true := beq_iff_eq.2 (by omega)
  have hq1 : ((s[1].toNat : Int) == 48) = false := beq_eq_false_iff_ne.2 (by omega)
  have h20 : ¬ (s.size : Int) - 1 < 1 := by omega
  have h21 : ¬ 19 < (s.size : Int) - 1 := by omega
  have h22 : (1 : Int) < (s.size : Int) := by omega
  have HD : Hid (∀ k (h : k < s.size), 1 ≤ k → IsDig s[k]) := hd
  clear hd hm0
  go_enter Tryd.func6, Tryd.ntmps6
  go_wp2
  all_goals
    go_loop [5, 8] (fun i m => ∃ k : Nat, 1 ≤ k ∧ k ≤ s.size ∧ i = .int .i64 k ∧ m = .int .u64 (segV s 1 k : Nat)) (fun i _ => s.size - (intOf i).toNat)
    case atStart => exact ⟨1, Nat.le_refl _, by omega, rfl, val_u64 (by rw [segV_start]; rfl)⟩
    case round =>
      obtain ⟨k, hk1, hk, rfl, rfl⟩ := hrel
      by_cases hlt : k < s.size
      · have hdk := HD.out k hlt hk1
        unfold IsDig at hdk
        have hdk1 : (48 : Int) ≤ (s[k].toNat : Int) := by omega
        have hdk2 : (s[k].toNat : Int) ≤ 57 := by omega
        have HS : Hid _ := segV_step s 1 k hk1 hlt
        have HB : Hid _ := segV_bound s 1 (k + 1) HD.out (by omega)
        go_wp2
        refine ⟨⟨k + 1, by omega, by omega, by go_num, val_u64 (step_u64 _ _ _ hdk.1 hdk.2 HS.out HB.out)⟩, ?_⟩
        simp [intOf]; omega
      · go_wp2
        go_ret3
        exact ⟨ret3 (by rw [segV_end s 1 k hlt, List.drop_one]), rfl⟩

/-! ### The text of a count -/
theorem below_grow (w : World) (k : Nat) (os : Array Obj) : Below w.heap.size w (Sort.grow (w.drewN k) os) :=
  ⟨rfl, rfl, rfl, by simp, fun i hi => Sort.heap_grow_old (w.drewN k) os hi⟩

theorem gPow : Tryd.prog.globalNamed "internal/strconv.uint64pow10" = some 0 := by kernel_rfl

/-- The listed table, as one word. -/
def Tab (w : World) : Prop := Lib.TabIs Tryd.prog w "internal/strconv.uint64pow10" .u64 Lib.pow10Tab

theorem Tab.stays {w w' : World} (h : Tab w) (hb : Below w.heap.size w w') : Tab w' := Joins.tab_stays gPow h hb (Nat.le_refl _)

theorem bits64 : (9223372036854775808 : Int) = 2 ^ 63 := by decide

set_option maxHeartbeats 400000 in
theorem string_any (n : Int) (b : Nat) (h01 : Hid (-9223372036854775808 ≤ n ∧ n ≤ 9223372036854775807)) (w : World) (hc : w.cell? ⟨b, 0, none⟩ = some (.int .i64 n)) (htab : Tab w) :
    Calls Tryd.prog 8 #[.pointer (some ⟨b, 0, none⟩)] w fun e w' => e = .returned (.string ⟨(Lib.itoa n).toArray⟩) ∧ Below w.heap.size w w' := by
  go_enter Tryd.func8, Tryd.ntmps8
  go_wp2_with fail
  refine (Tryd.strconv_Itoa n h01.out.1 h01.out.2 w htab).mono ?_
  rintro e w' ⟨rfl, k, os, rfl⟩
  go_wp2
  go_ret
  exact ⟨rfl, below_grow w k os⟩

set_option maxHeartbeats 400000 in
theorem text_any (n : Int) (h01 : Hid (-9223372036854775808 ≤ n ∧ n ≤ 9223372036854775807)) (w : World) (htab : Tab w) :
    Calls Tryd.prog 5 #[.int .i64 n] w fun e w' => e = .returned (.string ⟨(Lib.itoa n).toArray⟩) ∧ Below w.heap.size w w' := by
  go_enter Tryd.func5, Tryd.ntmps5
  go_wp2_with fail
  refine (string_any n w.heap.size h01 (w.alloc (.cells #[.int .i64 n] 29)) (by simp) (htab.stays ((Below.refl _ _).alloc (Nat.le_refl _) _))).mono ?_
  rintro e w' ⟨rfl, hb⟩
  go_wp2
  go_ret
  exact ⟨rfl, ((Below.refl _ _).alloc (Nat.le_refl _) _).trans (hb.mono (by simp))⟩

/-! ### Reading it back -/
theorem dec_get (l : List UInt8) (k : Nat) (h : k < (⟨l.toArray⟩ : ByteArray).size) : ∃ h' : k < l.length, (⟨l.toArray⟩ : ByteArray)[k] = l[k] := by
  have h' : k < l.length := by simpa [ByteArray.size] using h
  exact ⟨h', rfl⟩

theorem dec_first (u : Nat) (h : 1 ≤ u) (h0 : 0 < (Lib.decDigits u).length) : (Lib.decDigits u)[0].toNat ≠ 48 := by
  obtain ⟨c, l, hc⟩ := List.exists_cons_of_ne_nil (dec_ne u)
  have h2 := dec_head u h c l hc
  have e : (Lib.decDigits u)[0] = c := by simp [hc]
  rw [e]
  exact h2

set_option maxHeartbeats 400000 in
theorem parse_dec (u : Nat) (hu : u < 10000000000000000000) (w : World) :
    Calls Tryd.prog 6 #[.string ⟨(Lib.decDigits u).toArray⟩] w fun e w' => e = .returned (.tuple #[.bool false, .int .u64 (u : Int), .bool true]) ∧ w' = w := by
  have hl := dec_len u hu
  have hsz : (⟨(Lib.decDigits u).toArray⟩ : ByteArray).size = (Lib.decDigits u).length := by simp [ByteArray.size]
  refine (parse_pos ⟨(Lib.decDigits u).toArray⟩ w (fun k h _ => ?_) (by omega) (by omega) ?_).mono ?_
  · obtain ⟨h', e⟩ := dec_get _ k h
    rw [e]
    exact dec_dig u _ (List.getElem_mem h')
  · by_cases h0 : u = 0
    · left
      subst h0
      rw [hsz, Lib.decDigits_one (by omega)]
      rfl
    · right
      obtain ⟨h', e⟩ := dec_get (Lib.decDigits u) 0 (by omega)
      rw [e]
      exact dec_first u (by omega) h'
  · rintro e w' ⟨rfl, rfl⟩
    exact ⟨by rw [show (⟨(Lib.decDigits u).toArray⟩ : ByteArray).data.toList = Lib.decDigits u from rfl, dec_val], rfl⟩

set_option maxHeartbeats 400000 in
theorem parse_minus (u : Nat) (h1 : 1 ≤ u) (hu : u < 10000000000000000000) (w : World) :
    Calls Tryd.prog 6 #[.string ⟨(45 :: Lib.decDigits u).toArray⟩] w fun e w' => e = .returned (.tuple #[.bool true, .int .u64 (u : Int), .bool true]) ∧ w' = w := by
  have hl := dec_len u hu
  have hsz : (⟨(45 :: Lib.decDigits u).toArray⟩ : ByteArray).size = (Lib.decDigits u).length + 1 := by simp [ByteArray.size]
  refine (parse_neg ⟨(45 :: Lib.decDigits u).toArray⟩ w (by omega) rfl (fun k h hk => ?_) (by omega) (by omega) ?_).mono ?_
  · obtain ⟨h', e⟩ := dec_get _ k h
    rw [e]
    cases k with
    | zero => omega
    | succ k =>
      rw [List.getElem_cons_succ]
      exact dec_dig u _ (List.getElem_mem _)
  · obtain ⟨h', e⟩ := dec_get (45 :: Lib.decDigits u) 1 (by omega)
    rw [e, List.getElem_cons_succ]
    exact dec_first u h1 _
  · rintro e w' ⟨rfl, rfl⟩
    exact ⟨by rw [show (⟨(45 :: Lib.decDigits u).toArray⟩ : ByteArray).data.toList.drop 1 = Lib.decDigits u from rfl, dec_val], rfl⟩

/-! ### The first law -/
theorem ret_bool {a b : Bool} (h : a = b) : Ending.returned (.bool a) = .returned (.bool b) := by rw [h]
theorem want_pos (v : Int) (u : Nat) (h : v = u) (hu : u < 10000000000000000000) : ((u : Int) == IntKind.u64.wrap v) = true := by
  rw [beq_iff_eq, IntKind.wrap_u64]; omega
theorem want_neg (v : Int) (u : Nat) (h : v = -(u : Int)) (h1 : 1 ≤ u) (hu : u < 10000000000000000000) : ((u : Int) == IntKind.u64.wrap (-(IntKind.u64.wrap v))) = true := by
  rw [beq_iff_eq, IntKind.wrap_u64, IntKind.wrap_u64]; omega

set_option maxHeartbeats 400000 in
theorem reads_pos (v : Int) (h01 : Hid (-9223372036854775808 ≤ v ∧ v ≤ 9223372036854775807)) (hv : 0 ≤ v) (w : World) (htab : Tab w) :
    Calls Tryd.prog 3 #[.int .i64 v] w fun e w' => e = .returned (.bool true) ∧ Below w.heap.size w w' := by
  obtain ⟨u, hu0⟩ := Int.eq_ofNat_of_zero_le hv
  have hu : u < 10000000000000000000 := by have := h01.out; omega
  have hi : Lib.itoa v = Lib.decDigits u := by rw [hu0]; exact Lib.itoa_nonneg u
  have HU : Hid (v = u) := hu0
  have HW := want_pos v u hu0 hu
  have HL : Hid (u < 10000000000000000000) := hu
  clear hu0 hu
  go_enter Tryd.func3, Tryd.ntmps3
  go_wp2_with fail
  refine (text_any v h01 w htab).mono ?_
  rintro e w1 ⟨rfl, hb⟩
  rw [hi]
  clear hi
  go_wp2_with fail
  refine (parse_dec u HL.out w1).mono ?_
  rintro e w2 ⟨rfl, hw⟩
  obtain rfl := hw.symm
  go_wp2
  go_ret
  exact ⟨ret_bool (by simp; omega), hb⟩

set_option maxHeartbeats 400000 in
theorem reads_neg (v : Int) (h01 : Hid (-9223372036854775808 ≤ v ∧ v ≤ 9223372036854775807)) (hv : v < 0) (w : World) (htab : Tab w) :
    Calls Tryd.prog 3 #[.int .i64 v] w fun e w' => e = .returned (.bool true) ∧ Below w.heap.size w w' := by
  obtain ⟨u, hu0⟩ := Int.eq_ofNat_of_zero_le (a := -v) (by omega)
  have hu : u < 10000000000000000000 := by have := h01.out; omega
  have h1 : 1 ≤ u := by omega
  have hu1 : v = -(u : Int) := by omega
  have hi : Lib.itoa v = 45 :: Lib.decDigits u := by rw [hu1]; exact Lib.itoa_neg u h1
  have HW := want_neg v u hu1 h1 hu
  have HL : Hid (u < 10000000000000000000) := hu
  clear hu0 hu hu1
  go_enter Tryd.func3, Tryd.ntmps3
  go_wp2_with fail
  refine (text_any v h01 w htab).mono ?_
  rintro e w1 ⟨rfl, hb⟩
  rw [hi]
  clear hi
  go_wp2_with fail
  refine (parse_minus u h1 HL.out w1).mono ?_
  rintro e w2 ⟨rfl, hw⟩
  obtain rfl := hw.symm
  go_wp2
  go_ret
  exact ⟨ret_bool (by first | rfl | (simp; omega)), hb⟩

/-! ### Shorter first, then byte by byte -/
def dropLex (x y : ByteArray) (k : Nat) : Bool := lexLess (x.data.toList.drop k) (y.data.toList.drop k)

theorem dropLex_cons (x y : ByteArray) (k : Nat) (hx : k < x.size) (hy : k < y.size) :
    dropLex x y k = if x[k] = y[k] then dropLex x y (k + 1) else decide (x[k].toNat < y[k].toNat) := by
  unfold dropLex
  rw [List.drop_eq_getElem_cons (by simpa using hx), List.drop_eq_getElem_cons (i := k) (l := y.data.toList) (by simpa using hy)]
  rfl
theorem dropLex_end (x y : ByteArray) (k : Nat) (hx : ¬ k < x.size) : dropLex x y k = false := by
  unfold dropLex
  rw [List.drop_of_length_le (by simp; have : x.size = x.data.size := rfl; omega)]
  rfl

set_option maxHeartbeats 400000 in
theorem slex_ne (x y : ByteArray) (hx : x.size ≤ maxLen) (hy : y.size ≤ maxLen) (h : x.size ≠ y.size) (w : World) :
    Calls Tryd.prog 7 #[.string x, .string y] w fun e w' => e = .returned (.bool (decide (x.size < y.size))) ∧ w' = w := by
  unfold maxLen at hx hy
  have hb : ((x.size : Int) != (y.size : Int)) = true := by rw [bne_iff_ne]; omega
  go_enter Tryd.func7, Tryd.ntmps7
  go_wp2
  go_ret
  exact ⟨ret_bool (by simp), rfl⟩

set_option maxHeartbeats 400000 in
theorem slex_eq (x y : ByteArray) (hx : x.size ≤ maxLen) (h : Hid (x.size = y.size)) (w : World) :
    Calls Tryd.prog 7 #[.string x, .string y] w fun e w' => e = .returned (.bool (dropLex x y 0)) ∧ ∃ n, w' = w.drewN n := by
  unfold maxLen at hx
  have hb : ((x.size : Int) != (y.size : Int)) = false := by have := h.out; simp [this]
  go_enter Tryd.func7, Tryd.ntmps7
  go_wp2
  go_loopw [5] (fun i w' => ∃ k : Nat, k ≤ x.size ∧ i = .int .i64 k ∧ Hid (dropLex x y 0 = dropLex x y k) ∧ ∃ n, w' = w.drewN n) (fun i _ => x.size - (intOf i).toNat)
  case atStart => exact ⟨0, Nat.zero_le _, rfl, rfl, 0, rfl⟩
  case round =>
    obtain ⟨k, hk, rfl, HL, n, rfl⟩ := hrel
    by_cases hlt : k < x.size
    · have hlty : k < y.size := by have := h.out; omega
      by_cases he : x[k].toNat = y[k].toNat
      · have hbe : ((x[k].toNat : Int) != (y[k].toNat : Int)) = false := by simp [he]
        have HE : Hid (x[k] = y[k]) := UInt8.toNat_inj.1 he
        clear he
        go_wp2
        go_quiet (fail)
        go_wp2
        refine ⟨⟨k + 1, by omega, by go_num, ?_, n + nq, rfl⟩, ?_⟩
        · have := HL.out
          rw [dropLex_cons x y k hlt hlty, if_pos HE.out] at this
          exact this
        · simp [intOf]; omega
      · have hbe : ((x[k].toNat : Int) != (y[k].toNat : Int)) = true := by rw [bne_iff_ne]; omega
        go_wp2
        go_quiet (fail)
        go_wp2
        go_quiet (fail)
        go_wp2
        go_ret
        refine ⟨ret_bool ?_, ⟨_, by rw [World.drewN_drewN, World.drewN_drewN]⟩⟩
        have hne : ¬ x[k] = y[k] := fun e => he (by rw [e])
        rw [HL.out, dropLex_cons x y k hlt hlty, if_neg hne]
    · go_wp2
      go_ret
      exact ⟨ret_bool (by rw [HL.out, dropLex_end x y k hlt]), n, rfl⟩

theorem maxLen_of (n : Nat) (h : n ≤ 20) : n ≤ maxLen := by unfold maxLen; omega

theorem slex_dec_any (a b : Nat) (ha : a < 10000000000000000000) (hb : b < 10000000000000000000) (w : World) :
    Calls Tryd.prog 7 #[.string ⟨(Lib.decDigits a).toArray⟩, .string ⟨(Lib.decDigits b).toArray⟩] w fun e w' => e = .returned (.bool (decide (a < b))) ∧ ∃ n, w' = w.drewN n := by
  have la := dec_len a ha
  have lb := dec_len b hb
  have sa : (⟨(Lib.decDigits a).toArray⟩ : ByteArray).size = (Lib.decDigits a).length := by simp [ByteArray.size]
  have sb : (⟨(Lib.decDigits b).toArray⟩ : ByteArray).size = (Lib.decDigits b).length := by simp [ByteArray.size]
  have hs := slex_dec a b
  unfold slex at hs
  by_cases h : (Lib.decDigits a).length = (Lib.decDigits b).length
  · rw [if_pos h] at hs
    refine (slex_eq ⟨(Lib.decDigits a).toArray⟩ ⟨(Lib.decDigits b).toArray⟩ (maxLen_of _ (by omega)) (by rw [sa, sb]; exact h) w).mono ?_
    rintro e w' ⟨rfl, hw⟩
    exact ⟨ret_bool hs, hw⟩
  · rw [if_neg h] at hs
    refine (slex_ne ⟨(Lib.decDigits a).toArray⟩ ⟨(Lib.decDigits b).toArray⟩ (maxLen_of _ (by omega)) (maxLen_of _ (by omega)) (by rw [sa, sb]; exact h) w).mono ?_
    rintro e w' ⟨rfl, hw⟩
    exact ⟨ret_bool (by rw [sa, sb]; exact hs), 0, hw⟩

/-! ### The second law -/
set_option maxHeartbeats 400000 in
theorem orders_early (a b : Int) (h : a < 0 ∨ b < 0) (w : World) :
    Calls Tryd.prog 4 #[.int .i64 a, .int .i64 b] w fun e w' => e = .returned (.bool true) ∧ Below w.heap.size w w' := by
  by_cases ha : a < 0
  · go_enter Tryd.func4, Tryd.ntmps4
    go_wp2
    go_ret
    exact ⟨rfl, Below.refl _ _⟩
  · have hb : b < 0 := by omega
    clear h
    go_enter Tryd.func4, Tryd.ntmps4
    go_wp2
    go_ret
    exact ⟨rfl, Below.refl _ _⟩

theorem ne_wrap (v : Int) (u : Nat) (h : v = u) (hu : u < 10000000000000000000) : ((u : Int) != IntKind.u64.wrap v) = false := by
  have := want_pos v u h hu
  simpa using this

set_option maxHeartbeats 1000000 in
theorem orders_main (a b : Int) (ha01 : Hid (-9223372036854775808 ≤ a ∧ a ≤ 9223372036854775807)) (hb01 : Hid (-9223372036854775808 ≤ b ∧ b ≤ 9223372036854775807)) (ha : 0 ≤ a) (hb : 0 ≤ b) (w : World) (htab : Tab w) :
    Calls Tryd.prog 4 #[.int .i64 a, .int .i64 b] w fun e w' => e = .returned (.bool true) ∧ Below w.heap.size w w' := by
  obtain ⟨u, hu0⟩ := Int.eq_ofNat_of_zero_le ha
  obtain ⟨v, hv0⟩ := Int.eq_ofNat_of_zero_le hb
  have hu : u < 10000000000000000000 := by have := ha01.out; omega
  have hv : v < 10000000000000000000 := by have := hb01.out; omega
  have hi : Lib.itoa a = Lib.decDigits u := by rw [hu0]; exact Lib.itoa_nonneg u
  have hj : Lib.itoa b = Lib.decDigits v := by rw [hv0]; exact Lib.itoa_nonneg v
  have HWa := ne_wrap a u hu0 hu
  have HWb := ne_wrap b v hv0 hv
  have HLu : Hid (u < 10000000000000000000) := hu
  have HLv : Hid (v < 10000000000000000000) := hv
  have HO : Hid (decide (a < b) = decide (u < v)) := by show decide (a < b) = decide (u < v); rw [decide_eq_decide]; omega
  have ha' : ¬ a < 0 := by omega
  have hb' : ¬ b < 0 := by omega
  clear hu0 hu hv0 hv ha hb
  go_enter Tryd.func4, Tryd.ntmps4
  go_wp2_with fail
  refine (text_any a ha01 w htab).mono ?_
  rintro e w1 ⟨rfl, hb1⟩
  rw [hi]
  clear hi
  go_wp2_with fail
  refine (text_any b hb01 w1 (htab.stays hb1)).mono ?_
  rintro e w2 ⟨rfl, hb2⟩
  rw [hj]
  clear hj
  have hB : Below w.heap.size w w2 := hb1.trans (hb2.mono hb1.size)
  clear hb1 hb2
  go_wp2_with fail
  refine (parse_dec u HLu.out w2).mono ?_
  rintro e w3 ⟨rfl, hw⟩
  obtain rfl := hw.symm
  go_wp2_with fail
  refine (parse_dec v HLv.out w2).mono ?_
  rintro e w3 ⟨rfl, hw⟩
  obtain rfl := hw.symm
  go_wp2_with fail
  refine (slex_dec_any u v HLu.out HLv.out w2).mono ?_
  rintro e w3 ⟨rfl, n, hw⟩
  obtain rfl := hw.symm
  go_wp2
  go_ret
  refine ⟨ret_bool ?_, hB.trans ⟨rfl, rfl, rfl, Nat.le_refl _, fun _ _ => rfl⟩⟩
  simp [HO.out]
end Go.Proofs.Qxb6605919aDoor.Rc
