import Derived.Test.Qxb6608736aRows
import Derived.WalkKit
import Derived.WalkSpells
import Derived.WalkLawsBesides
import Derived.Deep.QuietTactic
import Derived.Deep.RegionWith
import Derived.BigQuiet
import Derived.Test.Qxb6608736aClass
namespace Go.Proofs.Qxb6608736a.Pj
open Go.RowKit
set_option linter.unusedVariables false

theorem ret_bool {a b : Bool} (h : a = b) : Ending.returned (.bool a) = .returned (.bool b) := by rw [h]
theorem ret_int {k : IntKind} {a b : Int} (h : a = b) : Ending.returned (.int k a) = .returned (.int k b) := by rw [h]

def qB (r : Int) : Bool := decide (r ≠ 65533 ∧ (r = 9 ∨ (32 ≤ r ∧ r ≤ 1114111)))

def jsB (r : Int) : Bool := decide (r = 9 ∨ (32 ≤ r ∧ r ≤ 1114111))

set_option maxHeartbeats 400000 in
theorem js_any (r : Int) (w : World) :
    Calls Try.prog 39 #[.int .i32 r] w fun e w' => e = .returned (.bool (jsB r)) ∧ w' = w := by
  go_enter Try.func39, Try.ntmps39
  go_wp2
  all_goals
    go_ret
    refine ⟨ret_bool ?_, rfl⟩
    rw [Bool.eq_iff_iff]
    simp [jsB] <;> omega

set_option maxHeartbeats 400000 in
theorem quoted_any (r : Int) (m : ByteArray) (w : World) :
    Calls Try.prog 35 #[.agg #[.int .i32 r, .string m]] w fun e w' => e = .returned (.bool (qB r)) ∧ w' = w.alloc (.cells #[.int .i32 r, .string m] 83) := by
  go_enter Try.func35, Try.ntmps35
  go_wp2_with (go_at_call 39; refine (js_any _ _).mono ?_; rintro e w' ⟨rfl, rfl⟩)
  all_goals
    go_ret
    refine ⟨ret_bool ?_, by first | rfl | (subst_vars; rfl)⟩
    rw [Bool.eq_iff_iff]
    simp [jsB, qB] <;> omega

def lenR (r : Int) : Int := if r < 0 then -1 else if r ≤ 127 then 1 else if r ≤ 2047 then 2 else if 55296 ≤ r ∧ r ≤ 57343 then -1 else if r ≤ 65535 then 3 else if r ≤ 1114111 then 4 else -1

set_option maxHeartbeats 400000 in
theorem runeLen_any (r : Int) (w : World) :
    Calls Try.prog 40 #[.int .i32 r] w fun e w' => e = .returned (.int .i64 (lenR r)) ∧ w' = w := by
  go_enter Try.func40, Try.ntmps40
  go_wp2
  all_goals
    go_ret
    refine ⟨ret_int ?_, rfl⟩
    unfold lenR
    omega


set_option maxHeartbeats 400000 in
theorem pass_any (b : Nat) (v r : Int) (s : Value) (m : ByteArray) (w : World) (hb : b < w.heap.size) (hv : w.cell? ⟨b, 7, none⟩ = some (.int .i64 v)) (hs : w.cell? ⟨b, 10, none⟩ = some s) (f7 : w.frozen? ⟨b, 7, none⟩ = false) (f10 : w.frozen? ⟨b, 10, none⟩ = false)
   (v0 : 0 ≤ v) (v1 : v ≤ 2305843009213693951) (l0 : 0 ≤ lenR r) (l1 : lenR r ≤ 4) :
    Calls Try.prog 36 #[.pointer (some ⟨b, 0, none⟩), .agg #[.int .i32 r, .string m]] w fun e w' => e = .returned (.tuple #[]) ∧ (((w.setCell ⟨b, 7, none⟩ (.int .i64 (v + lenR r))).setCell ⟨b, 10, none⟩ .nilIface).alloc (.cells #[.int .i32 r, .string m] 83)).drew = w' := by
  go_enter Try.func36, Try.ntmps36
  go_wp2
  go_region_with (go_at_call 40; refine (runeLen_any _ _).mono ?_; rintro e w' ⟨rfl, rfl⟩)
  all_goals go_wp2
  all_goals go_end0
  all_goals exact ⟨rfl, rfl⟩


theorem as_nil (W : World) : (Instr.typeAssert .nilIface 52 83 true).run Try.prog W = .ok (.tuple #[.agg #[.int .i32 0, .string ByteArray.empty], .bool false]) W := by kernel_rfl
theorem as_bad (W : World) (v : Value) : (Instr.typeAssert (.iface 83 v) 52 83 true).run Try.prog W = .ok (.tuple #[v, .bool true]) W := by kernel_rfl

set_option maxHeartbeats 400000 in
theorem pj_nil (b : Nat) (i : Int) (w : World) (_hb : b < w.heap.size) (hs : w.cell? ⟨b, 10, none⟩ = some .nilIface) :
    Calls Try.prog 31 #[.pointer (some ⟨b, 0, none⟩), .int .i64 i] w fun e w' => e = .returned (.bool false) ∧ Gr w w' := by
  have h1 := as_nil
  go_enter Try.func31, Try.ntmps31
  go_wp2
  go_quiet (fail)
  go_wp2
  go_ret
  exact ⟨rfl, ((Gr.refl _).alloc _ _).drewN _⟩

set_option maxHeartbeats 400000 in
theorem pj_no (b : Nat) (i r : Int) (m : ByteArray) (w : World) (hb : b < w.heap.size) (hs : w.cell? ⟨b, 10, none⟩ = some (.iface 83 (.agg #[.int .i32 r, .string m])))
    (hq : qB r = false) :
    Calls Try.prog 31 #[.pointer (some ⟨b, 0, none⟩), .int .i64 i] w fun e w' => e = .returned (.bool false) ∧ Gr w w' := by
  have h1 := as_bad
  have hc0 : ∀ s : WIn (Gr (w.alloc (.cells #[.int .i32 r, .string m] 83))), s.val.cell? ⟨w.heap.size, 0, none⟩ = some (.int .i32 r) := fun s => s.ok.cell (by simp)
  have hc1 : ∀ s : WIn (Gr (w.alloc (.cells #[.int .i32 r, .string m] 83))), s.val.cell? ⟨w.heap.size, 1, none⟩ = some (.string m) := fun s => s.ok.cell (by simp)
  go_enter Try.func31, Try.ntmps31
  go_wp2
  refine wp_region_class (G := Gr (w.alloc (.cells #[.int .i32 r, .string m] 83))) (by kernel_rfl) (by kernel_rfl) (Gr.refl _).drew ?_
  have hne : Nonempty (WIn (Gr (w.alloc (.cells #[.int .i32 r, .string m] 83)))) := ⟨⟨_, Gr.refl _⟩⟩
  repeat (go_big_quiet_step ((go_at_call 35; refine (quoted_any _ _ _).mono ?_; rintro e w' ⟨rfl, rfl⟩; exact ⟨rfl, ⟨⟨_, (Gr.alloc (WIn.ok _) _ _)⟩, rfl⟩⟩)))
  refine wpQuiet_nil ?_
  rintro _ ⟨s, rfl⟩
  go_wp2
  go_ret
  exact ⟨rfl, ((Gr.refl _).alloc _ _).trans s.ok⟩

set_option maxHeartbeats 400000 in
theorem pj_off (b : Nat) (p v i r : Int) (m : ByteArray) (w : World) (hb : b < w.heap.size) (hp : w.cell? ⟨b, 6, none⟩ = some (.int .i64 p)) (hv : w.cell? ⟨b, 7, none⟩ = some (.int .i64 v)) (hs : w.cell? ⟨b, 10, none⟩ = some (.iface 83 (.agg #[.int .i32 r, .string m])))
    (hq : qB r = true) (p0 : 0 ≤ p) (p1 : p ≤ 2305843009213693951) (i0 : 0 ≤ i) (i1 : i ≤ 2305843009213693951) (hpv : ¬ p + i = v) :
    Calls Try.prog 31 #[.pointer (some ⟨b, 0, none⟩), .int .i64 i] w fun e w' => e = .returned (.bool false) ∧ Gr w w' := by
  have h1 := as_bad
  have hc0 : ∀ s : WIn (Gr (w.alloc (.cells #[.int .i32 r, .string m] 83))), s.val.cell? ⟨w.heap.size, 0, none⟩ = some (.int .i32 r) := fun s => s.ok.cell (by simp)
  have hc1 : ∀ s : WIn (Gr (w.alloc (.cells #[.int .i32 r, .string m] 83))), s.val.cell? ⟨w.heap.size, 1, none⟩ = some (.string m) := fun s => s.ok.cell (by simp)
  have hc6 : ∀ s : WIn (Gr (w.alloc (.cells #[.int .i32 r, .string m] 83))), s.val.cell? ⟨b, 6, none⟩ = some (.int .i64 p) := fun s => s.ok.cell (((Gr.refl w).alloc _ _).cell hp)
  have hc7 : ∀ s : WIn (Gr (w.alloc (.cells #[.int .i32 r, .string m] 83))), s.val.cell? ⟨b, 7, none⟩ = some (.int .i64 v) := fun s => s.ok.cell (((Gr.refl w).alloc _ _).cell hv)
  go_enter Try.func31, Try.ntmps31
  go_wp2
  refine wp_region_class (G := Gr (w.alloc (.cells #[.int .i32 r, .string m] 83))) (by kernel_rfl) (by kernel_rfl) (Gr.refl _).drew ?_
  have hne : Nonempty (WIn (Gr (w.alloc (.cells #[.int .i32 r, .string m] 83)))) := ⟨⟨_, Gr.refl _⟩⟩
  repeat (go_big_quiet_step ((go_at_call 35; refine (quoted_any _ _ _).mono ?_; rintro e w' ⟨rfl, rfl⟩; exact ⟨rfl, ⟨⟨_, (Gr.alloc (WIn.ok _) _ _)⟩, rfl⟩⟩)))
  refine wpQuiet_nil ?_
  rintro _ ⟨s, rfl⟩
  go_wp2
  go_ret
  exact ⟨rfl, ((Gr.refl _).alloc _ _).trans s.ok⟩

set_option maxHeartbeats 400000 in
theorem pj_yes (b : Nat) (p v i r : Int) (m : ByteArray) (w : World) (hb : b < w.heap.size) (hp : w.cell? ⟨b, 6, none⟩ = some (.int .i64 p)) (hv : w.cell? ⟨b, 7, none⟩ = some (.int .i64 v)) (hs : w.cell? ⟨b, 10, none⟩ = some (.iface 83 (.agg #[.int .i32 r, .string m])))
    (f7 : w.frozen? ⟨b, 7, none⟩ = false) (f10 : w.frozen? ⟨b, 10, none⟩ = false)
    (hq : qB r = true) (p0 : 0 ≤ p) (v1 : v ≤ 2305843009213693951) (i0 : 0 ≤ i) (he : p + i = v) (l0 : 0 ≤ lenR r) (l1 : lenR r ≤ 4) :
    Calls Try.prog 31 #[.pointer (some ⟨b, 0, none⟩), .int .i64 i] w fun e w' => e = .returned (.bool true) ∧ Gr ((w.setCell ⟨b, 7, none⟩ (.int .i64 (v + lenR r))).setCell ⟨b, 10, none⟩ .nilIface) w' := by
  have h1 := as_bad
  have hb' : b < (w.alloc (.cells #[.int .i32 r, .string m] 83)).heap.size := by simp; omega
  have hc0 : ∀ s : WIn (Gr (w.alloc (.cells #[.int .i32 r, .string m] 83))), s.val.cell? ⟨w.heap.size, 0, none⟩ = some (.int .i32 r) := fun s => s.ok.cell (by simp)
  have hc1 : ∀ s : WIn (Gr (w.alloc (.cells #[.int .i32 r, .string m] 83))), s.val.cell? ⟨w.heap.size, 1, none⟩ = some (.string m) := fun s => s.ok.cell (by simp)
  have hc6 : ∀ s : WIn (Gr (w.alloc (.cells #[.int .i32 r, .string m] 83))), s.val.cell? ⟨b, 6, none⟩ = some (.int .i64 p) := fun s => s.ok.cell (((Gr.refl w).alloc _ _).cell hp)
  have hc7 : ∀ s : WIn (Gr (w.alloc (.cells #[.int .i32 r, .string m] 83))), s.val.cell? ⟨b, 7, none⟩ = some (.int .i64 v) := fun s => s.ok.cell (((Gr.refl w).alloc _ _).cell hv)
  have hc10 : ∀ s : WIn (Gr (w.alloc (.cells #[.int .i32 r, .string m] 83))), s.val.cell? ⟨b, 10, none⟩ = some _ := fun s => s.ok.cell (((Gr.refl w).alloc _ _).cell hs)
  have hf7 : ∀ s : WIn (Gr (w.alloc (.cells #[.int .i32 r, .string m] 83))), s.val.frozen? ⟨b, 7, none⟩ = false := fun s => (s.ok.fz _).trans ((((Gr.refl w).alloc _ _).fz _).trans f7)
  have hf10 : ∀ s : WIn (Gr (w.alloc (.cells #[.int .i32 r, .string m] 83))), s.val.frozen? ⟨b, 10, none⟩ = false := fun s => (s.ok.fz _).trans ((((Gr.refl w).alloc _ _).fz _).trans f10)
  have hv' : v = p + i := he.symm
  have HE : Hid (p + i = v) := he
  clear he hv'
  go_enter Try.func31, Try.ntmps31
  go_wp2
  refine wp_region_class (G := Gr (w.alloc (.cells #[.int .i32 r, .string m] 83))) (by kernel_rfl) (by kernel_rfl) (Gr.refl _).drew ?_
  have hne : Nonempty (WIn (Gr (w.alloc (.cells #[.int .i32 r, .string m] 83)))) := ⟨⟨_, Gr.refl _⟩⟩
  have hE : p + i = v := HE.out
  repeat (go_big_quiet_step ((go_at_call 35; refine (quoted_any _ _ _).mono ?_; rintro e w' ⟨rfl, rfl⟩; exact ⟨rfl, ⟨⟨_, (Gr.alloc (WIn.ok _) _ _)⟩, rfl⟩⟩)))
  refine wpQuiet_nil ?_
  rintro _ ⟨s, rfl⟩
  clear hE
  have hbs : b < s.val.heap.size := Nat.lt_of_lt_of_le hb' s.ok.below.size
  go_wp2_with (go_at_call 36; refine (pass_any b v r _ m s.val hbs (hc7 s) (hc10 s) (hf7 s) (hf10 s) (by have := HE.out; omega) v1 l0 l1).mono ?_; rintro e w' ⟨rfl, rfl⟩)
  go_ret
  refine ⟨rfl, ?_⟩
  refine ((Gr.setCell_both (Gr.setCell_both (((Gr.refl _).alloc _ _).trans s.ok) _ hb _) _ ?_ _).alloc _ _).drew
  simpa using hb

/-! ### The small callees -/
set_option maxHeartbeats 400000 in
theorem bytes_any (p v i : Int) (st : Bool) (r : Int) (m : ByteArray) (w : World) (hm : m.size ≤ maxLen) :
    Calls Try.prog 11 #[.int .i64 p, .int .i64 v, .int .i64 i, .bool st, .int .i32 r, .string m] w fun e w' => e = .returned (.bool (decide (m.size ≤ 1048576))) ∧ w' = w := by
  unfold maxLen at hm
  by_cases h : m.size ≤ 1048576
  · have h' : ¬ (1048576 : Int) < (m.size : Int) := by omega
    go_enter Try.func11, Try.ntmps11
    go_wp2
    go_ret
    exact ⟨ret_bool (by simp), rfl⟩
  · have h' : (1048576 : Int) < (m.size : Int) := by omega
    go_enter Try.func11, Try.ntmps11
    go_wp2
    go_ret
    exact ⟨ret_bool (by simp [h]), rfl⟩

def printB (r : Int) : Bool := decide (r = 9 ∨ r = 10 ∨ r = 13 ∨ (32 ≤ r ∧ r ≤ 126) ∨ r = 133 ∨ (160 ≤ r ∧ r ≤ 55295) ∨ (57344 ≤ r ∧ r ≤ 65533) ∨ (65536 ≤ r ∧ r ≤ 1114111))

set_option maxHeartbeats 400000 in
theorem print_any (r : Int) (w : World) :
    Calls Try.prog 30 #[.int .i32 r] w fun e w' => e = .returned (.bool (printB r)) ∧ w' = w := by
  go_enter Try.func30, Try.ntmps30
  go_wp2
  all_goals
    go_ret
    refine ⟨ret_bool ?_, rfl⟩
    rw [Bool.eq_iff_iff]
    simp [printB] <;> omega

def stB (r : Int) : Bool := decide (r = 65533 ∨ r = 65279) || (decide (0 ≤ r ∧ r ≤ 1114111 ∧ ¬ (55296 ≤ r ∧ r ≤ 57343)) && !printB r)

set_option maxHeartbeats 400000 in
theorem stops_any (r : Int) (w : World) :
    Calls Try.prog 12 #[.int .i32 r] w fun e w' => e = .returned (.bool (stB r)) ∧ w' = w := by
  go_enter Try.func12, Try.ntmps12
  go_wp2_with (go_at_call 30; refine (print_any _ _).mono ?_; rintro e w' ⟨rfl, rfl⟩)
  all_goals
    go_ret
    refine ⟨ret_bool ?_, rfl⟩
    try simp only [beq_iff_eq, beq_eq_false_iff_ne, ne_eq] at *
    rw [Bool.eq_iff_iff]
    simp [stB, printB]
    omega

def u8 (r : Int) : Int := if r < 128 then 1 else if r < 2048 then 2 else if r < 65536 then 3 else 4

set_option maxHeartbeats 400000 in
theorem u8_any (r : Int) (w : World) :
    Calls Try.prog 19 #[.int .i32 r] w fun e w' => e = .returned (.int .i64 (u8 r)) ∧ w' = w := by
  go_enter Try.func19, Try.ntmps19
  go_wp2
  all_goals
    go_ret
    refine ⟨ret_int ?_, rfl⟩
    unfold u8
    omega

def inp (p v : Int) (s : Value) : Obj := .cells #[.nilIface, .int .u8 0, .slice none 0 0, .int .i64 0, .nilIface, .slice none 0 0, .int .i64 p, .int .i64 v, .nilIface, .int .i64 0, s, .int .i64 0, .int .i64 0, .int .i64 0] 58

set_option maxHeartbeats 400000 in
theorem newAt_any (p v : Int) (w : World) :
    Calls Try.prog 13 #[.int .i64 p, .int .i64 v] w fun e w' => e = .returned (.pointer (some ⟨w.heap.size, 0, none⟩)) ∧ w.alloc (inp p v .nilIface) = w' := by
  go_enter Try.func13, Try.ntmps13
  go_wp2
  go_ret
  exact ⟨rfl, rfl⟩

set_option maxHeartbeats 400000 in
theorem newStopped_any (p v r : Int) (m : ByteArray) (w : World) :
    Calls Try.prog 14 #[.int .i64 p, .int .i64 v, .int .i32 r, .string m] w fun e w' => e = .returned (.pointer (some ⟨w.heap.size, 0, none⟩)) ∧ w.alloc (inp p v (.iface 83 (.agg #[.int .i32 r, .string m]))) = w' := by
  go_enter Try.func14, Try.ntmps14
  go_wp2
  go_ret
  exact ⟨rfl, rfl⟩

set_option maxHeartbeats 400000 in
theorem valid_any (b : Nat) (v : Int) (w : World) (hv : w.cell? ⟨b, 7, none⟩ = some (.int .i64 v)) :
    Calls Try.prog 16 #[.pointer (some ⟨b, 0, none⟩)] w fun e w' => e = .returned (.int .i64 v) ∧ w' = w := by
  go_enter Try.func16, Try.ntmps16
  go_wp2
  go_ret
  exact ⟨rfl, rfl⟩

set_option maxHeartbeats 400000 in
theorem pos_any (b : Nat) (v : Int) (w : World) (hv : w.cell? ⟨b, 6, none⟩ = some (.int .i64 v)) :
    Calls Try.prog 18 #[.pointer (some ⟨b, 0, none⟩)] w fun e w' => e = .returned (.int .i64 v) ∧ w' = w := by
  go_enter Try.func18, Try.ntmps18
  go_wp2
  go_ret
  exact ⟨rfl, rfl⟩

theorem ne_nil (W : World) (u : TypeId) (v : Value) : (binOp .neq 52 (.iface u v) .nilIface).run Try.prog W = .ok (.bool true) W := by kernel_rfl
theorem nil_nil (W : World) : (binOp .neq 52 .nilIface .nilIface).run Try.prog W = .ok (.bool false) W := by kernel_rfl

set_option maxHeartbeats 400000 in
theorem stopped_nil (b : Nat) (w : World) (hs : w.cell? ⟨b, 10, none⟩ = some .nilIface) :
    Calls Try.prog 17 #[.pointer (some ⟨b, 0, none⟩)] w fun e w' => e = .returned (.bool false) ∧ w' = w := by
  have h1 := nil_nil
  go_enter Try.func17, Try.ntmps17
  go_wp2
  go_ret
  exact ⟨rfl, rfl⟩

set_option maxHeartbeats 400000 in
theorem stopped_bad (b : Nat) (u : TypeId) (v : Value) (w : World) (hs : w.cell? ⟨b, 10, none⟩ = some (.iface u v)) :
    Calls Try.prog 17 #[.pointer (some ⟨b, 0, none⟩)] w fun e w' => e = .returned (.bool true) ∧ w' = w := by
  have h1 := ne_nil
  go_enter Try.func17, Try.ntmps17
  go_wp2
  go_ret
  exact ⟨rfl, rfl⟩
end Go.Proofs.Qxb6608736a.Pj
