import Derived.Test.Qxb6608736aPjWalks
namespace Go.Proofs.Qxb6608736a.Pj
open Go.RowKit
set_option linter.unusedVariables false

set_option maxHeartbeats 400000 in
theorem z_nil (b : Nat) (i : Int) (w : World) (hs : w.cell? ⟨b, 10, none⟩ = some .nilIface) :
    Calls Try.prog 15 #[.pointer (some ⟨b, 0, none⟩), .int .i64 i] w fun e w' => e = .returned (.bool false) ∧ Gr w w' := by
  go_enter Try.func15, Try.ntmps15
  go_wp2_with (go_at_call 31; refine (pj_nil b i w (World.block_lt_of_cell? _ _ hs) hs).mono ?_; rintro e w' ⟨rfl, hg⟩)
  go_ret
  exact ⟨rfl, hg⟩

set_option maxHeartbeats 400000 in
theorem z_no (b : Nat) (i r : Int) (m : ByteArray) (w : World) (hs : w.cell? ⟨b, 10, none⟩ = some (.iface 83 (.agg #[.int .i32 r, .string m])))
    (hq : qB r = false) :
    Calls Try.prog 15 #[.pointer (some ⟨b, 0, none⟩), .int .i64 i] w fun e w' => e = .returned (.bool false) ∧ Gr w w' := by
  go_enter Try.func15, Try.ntmps15
  go_wp2_with (go_at_call 31; refine (pj_no b i r m w (World.block_lt_of_cell? _ _ hs) hs hq).mono ?_; rintro e w' ⟨rfl, hg⟩)
  go_ret
  exact ⟨rfl, hg⟩

set_option maxHeartbeats 400000 in
theorem z_off (b : Nat) (p v i r : Int) (m : ByteArray) (w : World) (hp : w.cell? ⟨b, 6, none⟩ = some (.int .i64 p)) (hv : w.cell? ⟨b, 7, none⟩ = some (.int .i64 v)) (hs : w.cell? ⟨b, 10, none⟩ = some (.iface 83 (.agg #[.int .i32 r, .string m])))
    (hq : qB r = true) (p0 : 0 ≤ p) (p1 : p ≤ 2305843009213693951) (i0 : 0 ≤ i) (i1 : i ≤ 2305843009213693951) (hpv : ¬ p + i = v) :
    Calls Try.prog 15 #[.pointer (some ⟨b, 0, none⟩), .int .i64 i] w fun e w' => e = .returned (.bool false) ∧ Gr w w' := by
  go_enter Try.func15, Try.ntmps15
  go_wp2_with (go_at_call 31; refine (pj_off b p v i r m w (World.block_lt_of_cell? _ _ hs) hp hv hs hq p0 p1 i0 i1 hpv).mono ?_; rintro e w' ⟨rfl, hg⟩)
  go_ret
  exact ⟨rfl, hg⟩

set_option maxHeartbeats 400000 in
theorem z_yes (b : Nat) (p v i r : Int) (m : ByteArray) (w : World) (hp : w.cell? ⟨b, 6, none⟩ = some (.int .i64 p)) (hv : w.cell? ⟨b, 7, none⟩ = some (.int .i64 v)) (hs : w.cell? ⟨b, 10, none⟩ = some (.iface 83 (.agg #[.int .i32 r, .string m])))
    (f7 : w.frozen? ⟨b, 7, none⟩ = false) (f10 : w.frozen? ⟨b, 10, none⟩ = false)
    (hq : qB r = true) (p0 : 0 ≤ p) (v1 : v ≤ 2305843009213693951) (i0 : 0 ≤ i) (he : p + i = v) (l0 : 0 ≤ lenR r) (l1 : lenR r ≤ 4) :
    Calls Try.prog 15 #[.pointer (some ⟨b, 0, none⟩), .int .i64 i] w fun e w' => e = .returned (.bool true) ∧ Gr ((w.setCell ⟨b, 7, none⟩ (.int .i64 (v + lenR r))).setCell ⟨b, 10, none⟩ .nilIface) w' := by
  have HE : Hid (p + i = v) := he
  clear he
  go_enter Try.func15, Try.ntmps15
  go_wp2_with (go_at_call 31; refine (pj_yes b p v i r m w (World.block_lt_of_cell? _ _ hs) hp hv hs f7 f10 hq p0 v1 i0 HE.out l0 l1).mono ?_; rintro e w' ⟨rfl, hg⟩)
  go_ret
  exact ⟨rfl, hg⟩

set_option maxHeartbeats 1000000 in
theorem law_nil (p v i r : Int) (m : ByteArray) (w : World) (hm : m.size ≤ maxLen) (hm' : m.size ≤ 1048576)
    (p0 : 0 ≤ p) (pv : p ≤ v) (v1 : v ≤ 2305843009213693951) (i0 : 0 ≤ i) (i1 : i ≤ 2305843009213693951) :
    Calls Try.prog 6 #[.int .i64 p, .int .i64 v, .int .i64 i, .bool false, .int .i32 r, .string m] w fun e w' => e = .returned (.bool true) ∧ Gr w w' := by
  have hmd : decide (m.size ≤ 1048576) = true := by simpa using hm'
  have hm2 : ¬ (1048576 : Int) < (m.size : Int) := by omega
  go_enter Try.func6, Try.ntmps6
  go_wp2_with (first | (go_at_call 11; refine (bytes_any _ _ _ _ _ _ _ hm).mono ?_; rintro e w' ⟨rfl, hw⟩; obtain rfl := hw.symm) | (go_at_call 13; refine (newAt_any _ _ _).mono ?_; rintro e w' ⟨rfl, rfl⟩))
  all_goals first
    | (go_ret; exact ⟨rfl, Gr.refl _⟩)
    | (refine (z_nil w.heap.size i _ (by simp [inp])).mono ?_
       rintro e w1 ⟨rfl, g1⟩
       have g0 : Gr w (w.alloc (inp p v .nilIface)) := (Gr.refl _).alloc _ _
       have c6 : w1.cell? ⟨w.heap.size, 6, none⟩ = some (.int .i64 p) := g1.cell (by simp [inp])
       have c7 : w1.cell? ⟨w.heap.size, 7, none⟩ = some (.int .i64 v) := g1.cell (by simp [inp])
       have c10 : w1.cell? ⟨w.heap.size, 10, none⟩ = some .nilIface := g1.cell (by simp [inp])
       go_wp2_with (first | (go_at_call 16; refine (valid_any _ _ _ c7).mono ?_; rintro e w' ⟨rfl, hw⟩; obtain rfl := hw.symm) | (go_at_call 17; refine (stopped_nil _ _ c10).mono ?_; rintro e w' ⟨rfl, hw⟩; obtain rfl := hw.symm))
       refine (z_nil w.heap.size i _ c10).mono ?_
       rintro e w2 ⟨rfl, g2⟩
       have d6 := g2.cell c6
       have d7 := g2.cell c7
       go_wp2_with (first | (go_at_call 16; refine (valid_any _ _ _ d7).mono ?_; rintro e w' ⟨rfl, hw⟩; obtain rfl := hw.symm) | (go_at_call 18; refine (pos_any _ _ _ d6).mono ?_; rintro e w' ⟨rfl, hw⟩; obtain rfl := hw.symm))
       go_ret
       exact ⟨rfl, (g0.trans g1).trans g2⟩)

theorem after_set (w : World) (b : Nat) (x p v s : Value) (h6 : w.cell? ⟨b, 6, none⟩ = some p) (h7 : w.cell? ⟨b, 7, none⟩ = some v) (h10 : w.cell? ⟨b, 10, none⟩ = some s) :
    ((w.setCell ⟨b, 7, none⟩ x).setCell ⟨b, 10, none⟩ .nilIface).cell? ⟨b, 6, none⟩ = some p ∧ ((w.setCell ⟨b, 7, none⟩ x).setCell ⟨b, 10, none⟩ .nilIface).cell? ⟨b, 7, none⟩ = some x ∧ ((w.setCell ⟨b, 7, none⟩ x).setCell ⟨b, 10, none⟩ .nilIface).cell? ⟨b, 10, none⟩ = some .nilIface := by
  refine ⟨?_, ?_, ?_⟩
  · rw [World.cell?_setCell_other _ _ _ _ (by simp), World.cell?_setCell_other _ _ _ _ (by simp)]; exact h6
  · rw [World.cell?_setCell_other _ _ _ _ (by simp)]; exact World.cell?_setCell_same _ _ _ h7
  · exact World.cell?_setCell_same _ _ _ (u := s) (by rw [World.cell?_setCell_other _ _ _ _ (by simp)]; exact h10)

theorem st_no (r : Int) (h : stB r = true) (hq : qB r = false) : r < 32 ∨ r = 65533 := by
  simp [stB, printB] at h
  simp [qB] at hq
  omega
theorem st_yes (r : Int) (h : stB r = true) (hq : qB r = true) : 32 ≤ r ∧ r ≠ 65533 ∧ lenR r = u8 r ∧ 1 ≤ lenR r ∧ lenR r ≤ 4 := by
  simp [stB, printB] at h
  simp [qB] at hq
  unfold lenR u8
  omega

set_option maxHeartbeats 1000000 in
theorem law_no (p v i r : Int) (m : ByteArray) (w : World) (hm : m.size ≤ maxLen) (hm' : m.size ≤ 1048576)
    (p0 : 0 ≤ p) (pv : p ≤ v) (v1 : v ≤ 2305843009213693951) (i0 : 0 ≤ i) (i1 : i ≤ 2305843009213693951) (hst : stB r = true) (hq : qB r = false) :
    Calls Try.prog 6 #[.int .i64 p, .int .i64 v, .int .i64 i, .bool true, .int .i32 r, .string m] w fun e w' => e = .returned (.bool true) ∧ Gr w w' := by
  have hmd : decide (m.size ≤ 1048576) = true := by simpa using hm'
  have hm2 : ¬ (1048576 : Int) < (m.size : Int) := by omega
  have hq32 : r < 32 ∨ r = 65533 := st_no r hst hq
  go_enter Try.func6, Try.ntmps6
  go_wp2_with (first | (go_at_call 11; refine (bytes_any _ _ _ _ _ _ _ hm).mono ?_; rintro e w' ⟨rfl, hw⟩; obtain rfl := hw.symm) | (go_at_call 12; refine (stops_any _ _).mono ?_; rintro e w' ⟨rfl, hw⟩; obtain rfl := hw.symm) | (go_at_call 13; refine (newAt_any _ _ _).mono ?_; rintro e w' ⟨rfl, rfl⟩) | (go_at_call 14; refine (newStopped_any _ _ _ _ _).mono ?_; rintro e w' ⟨rfl, rfl⟩))
  all_goals first
    | (go_ret; exact ⟨rfl, Gr.refl _⟩)
    | (refine (z_no (w.heap.size + 1) i r m _ (by simp [inp]) hq).mono ?_
       rintro e w1 ⟨rfl, g1⟩
       have g0 : Gr w ((w.alloc (inp p v .nilIface)).alloc (inp p v (.iface 83 (.agg #[.int .i32 r, .string m])))) := ((Gr.refl _).alloc _ _).alloc _ _
       have c6 : w1.cell? ⟨w.heap.size + 1, 6, none⟩ = some (.int .i64 p) := g1.cell (by simp [inp])
       have c7 : w1.cell? ⟨w.heap.size + 1, 7, none⟩ = some (.int .i64 v) := g1.cell (by simp [inp])
       have c10 : w1.cell? ⟨w.heap.size + 1, 10, none⟩ = some (.iface 83 (.agg #[.int .i32 r, .string m])) := g1.cell (by simp [inp])
       go_wp2_with (first | (go_at_call 16; refine (valid_any _ _ _ c7).mono ?_; rintro e w' ⟨rfl, hw⟩; obtain rfl := hw.symm) | (go_at_call 17; refine (stopped_bad _ _ _ _ c10).mono ?_; rintro e w' ⟨rfl, hw⟩; obtain rfl := hw.symm))
       refine (z_no (w.heap.size + 1) i r m _ c10 hq).mono ?_
       rintro e w2 ⟨rfl, g2⟩
       have d6 := g2.cell c6
       have d7 := g2.cell c7
       go_wp2_with (first | (go_at_call 16; refine (valid_any _ _ _ d7).mono ?_; rintro e w' ⟨rfl, hw⟩; obtain rfl := hw.symm) | (go_at_call 18; refine (pos_any _ _ _ d6).mono ?_; rintro e w' ⟨rfl, hw⟩; obtain rfl := hw.symm))
       all_goals
         go_ret
         exact ⟨rfl, (g0.trans g1).trans g2⟩)

set_option maxHeartbeats 1000000 in
theorem law_off (p v i r : Int) (m : ByteArray) (w : World) (hm : m.size ≤ maxLen) (hm' : m.size ≤ 1048576)
    (p0 : 0 ≤ p) (pv : p ≤ v) (v1 : v ≤ 2305843009213693951) (i0 : 0 ≤ i) (i1 : i ≤ 2305843009213693951) (hst : stB r = true) (hq : qB r = true) (hpv : ¬ p + i = v) :
    Calls Try.prog 6 #[.int .i64 p, .int .i64 v, .int .i64 i, .bool true, .int .i32 r, .string m] w fun e w' => e = .returned (.bool true) ∧ Gr w w' := by
  have hmd : decide (m.size ≤ 1048576) = true := by simpa using hm'
  have hm2 : ¬ (1048576 : Int) < (m.size : Int) := by omega
  have hiv : (i == v - p) = false := beq_eq_false_iff_ne.2 (by omega)
  obtain ⟨h32, hne, -, -, -⟩ := st_yes r hst hq
  have hge : decide (32 ≤ r) = true := by simpa using h32
  have hnf : (r != 65533) = true := by simpa using hne
  go_enter Try.func6, Try.ntmps6
  go_wp2_with (first | (go_at_call 11; refine (bytes_any _ _ _ _ _ _ _ hm).mono ?_; rintro e w' ⟨rfl, hw⟩; obtain rfl := hw.symm) | (go_at_call 12; refine (stops_any _ _).mono ?_; rintro e w' ⟨rfl, hw⟩; obtain rfl := hw.symm) | (go_at_call 13; refine (newAt_any _ _ _).mono ?_; rintro e w' ⟨rfl, rfl⟩) | (go_at_call 14; refine (newStopped_any _ _ _ _ _).mono ?_; rintro e w' ⟨rfl, rfl⟩))
  all_goals first
    | (go_ret; exact ⟨rfl, Gr.refl _⟩)
    | (refine (z_off (w.heap.size + 1) p v i r m _ (by simp [inp]) (by simp [inp]) (by simp [inp]) hq p0 (by omega) i0 i1 hpv).mono ?_
       rintro e w1 ⟨rfl, g1⟩
       have g0 : Gr w ((w.alloc (inp p v .nilIface)).alloc (inp p v (.iface 83 (.agg #[.int .i32 r, .string m])))) := ((Gr.refl _).alloc _ _).alloc _ _
       have c6 : w1.cell? ⟨w.heap.size + 1, 6, none⟩ = some (.int .i64 p) := g1.cell (by simp [inp])
       have c7 : w1.cell? ⟨w.heap.size + 1, 7, none⟩ = some (.int .i64 v) := g1.cell (by simp [inp])
       have c10 : w1.cell? ⟨w.heap.size + 1, 10, none⟩ = some (.iface 83 (.agg #[.int .i32 r, .string m])) := g1.cell (by simp [inp])
       go_wp2_with (first | (go_at_call 16; refine (valid_any _ _ _ c7).mono ?_; rintro e w' ⟨rfl, hw⟩; obtain rfl := hw.symm) | (go_at_call 17; refine (stopped_bad _ _ _ _ c10).mono ?_; rintro e w' ⟨rfl, hw⟩; obtain rfl := hw.symm))
       refine (z_off (w.heap.size + 1) p v i r m _ c6 c7 c10 hq p0 (by omega) i0 i1 hpv).mono ?_
       rintro e w2 ⟨rfl, g2⟩
       have d6 := g2.cell c6
       have d7 := g2.cell c7
       go_wp2_with (first | (go_at_call 16; refine (valid_any _ _ _ d7).mono ?_; rintro e w' ⟨rfl, hw⟩; obtain rfl := hw.symm) | (go_at_call 18; refine (pos_any _ _ _ d6).mono ?_; rintro e w' ⟨rfl, hw⟩; obtain rfl := hw.symm))
       all_goals
         go_ret
         exact ⟨rfl, (g0.trans g1).trans g2⟩)

set_option maxHeartbeats 1000000 in
theorem law_yes (p v i r : Int) (m : ByteArray) (w : World) (hm : m.size ≤ maxLen) (hm' : m.size ≤ 1048576)
    (p0 : 0 ≤ p) (pv : p ≤ v) (v1 : v ≤ 2305843009213693951) (i0 : 0 ≤ i) (i1 : i ≤ 2305843009213693951) (hst : stB r = true) (hq : qB r = true) (hpv : Hid (p + i = v)) :
    Calls Try.prog 6 #[.int .i64 p, .int .i64 v, .int .i64 i, .bool true, .int .i32 r, .string m] w fun e w' => e = .returned (.bool true) ∧ Gr w w' := by
  have hmd : decide (m.size ≤ 1048576) = true := by simpa using hm'
  have hm2 : ¬ (1048576 : Int) < (m.size : Int) := by omega
  have hiv : (i == v - p) = true := beq_iff_eq.2 (by have := hpv.out; omega)
  obtain ⟨h32, hne, hlen0, hl1, hl4⟩ := st_yes r hst hq
  have hlen : Hid (lenR r = u8 r) := hlen0
  clear hlen0
  have hge : decide (32 ≤ r) = true := by simpa using h32
  have hnf : (r != 65533) = true := by simpa using hne
  go_enter Try.func6, Try.ntmps6
  go_wp2_with (first | (go_at_call 11; refine (bytes_any _ _ _ _ _ _ _ hm).mono ?_; rintro e w' ⟨rfl, hw⟩; obtain rfl := hw.symm) | (go_at_call 12; refine (stops_any _ _).mono ?_; rintro e w' ⟨rfl, hw⟩; obtain rfl := hw.symm) | (go_at_call 13; refine (newAt_any _ _ _).mono ?_; rintro e w' ⟨rfl, rfl⟩) | (go_at_call 14; refine (newStopped_any _ _ _ _ _).mono ?_; rintro e w' ⟨rfl, rfl⟩))
  all_goals first
    | (go_ret; exact ⟨rfl, Gr.refl _⟩)
    | (refine (z_yes (w.heap.size + 1) p v i r m _ (by simp [inp]) (by simp [inp]) (by simp [inp]) (by simp [inp]) (by simp [inp]) hq p0 v1 i0 hpv.out (by omega) (by omega)).mono ?_
       rintro e w1 ⟨rfl, g1⟩
       have g0 : Gr w ((w.alloc (inp p v .nilIface)).alloc (inp p v (.iface 83 (.agg #[.int .i32 r, .string m])))) := ((Gr.refl _).alloc _ _).alloc _ _
       have g0' := (g0.setCell_new ⟨w.heap.size + 1, 7, none⟩ (by simp) (.int .i64 (v + lenR r))).setCell_new ⟨w.heap.size + 1, 10, none⟩ (by simp) .nilIface
       have hset := after_set ((w.alloc (inp p v .nilIface)).alloc (inp p v (.iface 83 (.agg #[.int .i32 r, .string m])))) (w.heap.size + 1) (.int .i64 (v + lenR r)) (.int .i64 p) (.int .i64 v) (.iface 83 (.agg #[.int .i32 r, .string m])) (by simp [inp]) (by simp [inp]) (by simp [inp])
       have c6 : w1.cell? ⟨w.heap.size + 1, 6, none⟩ = some (.int .i64 p) := g1.cell hset.1
       have c7 : w1.cell? ⟨w.heap.size + 1, 7, none⟩ = some (.int .i64 (v + lenR r)) := g1.cell hset.2.1
       have c10 : w1.cell? ⟨w.heap.size + 1, 10, none⟩ = some .nilIface := g1.cell hset.2.2
       clear hset
       go_wp2_with (first | (go_at_call 16; refine (valid_any _ _ _ c7).mono ?_; rintro e w' ⟨rfl, hw⟩; obtain rfl := hw.symm) | (go_at_call 17; refine (stopped_nil _ _ c10).mono ?_; rintro e w' ⟨rfl, hw⟩; obtain rfl := hw.symm))
       refine (z_nil (w.heap.size + 1) i _ c10).mono ?_
       rintro e w2 ⟨rfl, g2⟩
       have d6 := g2.cell c6
       have d7 := g2.cell c7
       rw [hlen.out] at d7
       rw [hlen.out]
       clear c7
       have hu1 : 1 ≤ u8 r := by have := hlen.out; omega
       have hu4 : u8 r ≤ 4 := by have := hlen.out; omega
       go_wp2_with (first | (go_at_call 16; refine (valid_any _ _ _ d7).mono ?_; rintro e w' ⟨rfl, hw⟩; obtain rfl := hw.symm) | (go_at_call 18; refine (pos_any _ _ _ d6).mono ?_; rintro e w' ⟨rfl, hw⟩; obtain rfl := hw.symm) | (go_at_call 19; refine (u8_any _ _).mono ?_; rintro e w' ⟨rfl, hw⟩; obtain rfl := hw.symm))
       all_goals
         go_ret
         exact ⟨rfl, (g0'.trans g1).trans g2⟩)
end Go.Proofs.Qxb6608736a.Pj
