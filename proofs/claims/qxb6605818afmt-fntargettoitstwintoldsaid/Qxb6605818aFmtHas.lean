import Derived.Test.Qxb6605818aFmtRR
namespace Go.Proofs.Qxb6605818aFmt
open Go.RowKit Go.Maps
set_option linter.unusedVariables false

def ordV (nm : ByteArray) (m p lm la : Nat) : Value := .agg #[.string nm, .slice (some ⟨m, 0, none⟩) lm lm, .slice (some ⟨p, 0, none⟩) la la]

set_option maxHeartbeats 600000 in
theorem has_any (nm x : ByteArray) (m p lm la : Nat) (M : Nat → ByteArray) (w : World) (hl : lm ≤ 4096) (hm : w.rowIs m 9 lm (strV M)) :
    Calls Tryf.prog 26 #[ordV nm m p lm la, .string x] w fun e w' => e = .returned (.bool (inStr M x lm)) ∧ Below w.heap.size w w' := by
  have HC : Hid (∀ w', Below w.heap.size w w' → Calls Tryf.prog 29 #[.slice (some ⟨m, 0, none⟩) lm lm, .string x] w' fun e w'' => e = .returned (.bool (inStr M x lm)) ∧ w'' = w') := fun w' hb => contains_any _ lm lm M x w' (by omega) ((Sl.row hm).below hb)
  clear hm
  unfold ordV
  go_enter Tryf.func26, Tryf.ntmps26
  go_wp2_with fail
  refine Calls.mono (HC.out _ ((Below.refl _ _).alloc (Nat.le_refl _) _)) ?_
  rintro e w' ⟨rfl, rfl⟩
  go_wp2
  go_ret
  exact ⟨rfl, (Below.refl _ _).alloc (Nat.le_refl _) _⟩

set_option maxRecDepth 100000 in
set_option maxHeartbeats 1000000 in
theorem addsWithin_any (sb ib n : Nat) (nm : ByteArray) (m p lm la ol oc : Nat) (oa : Option Addr) (M : Nat → ByteArray) (fi : ByteArray → Value) (hs : ByteArray → Bool) (w : World) (hl : lm ≤ 4096) (hm : w.rowIs m 9 lm (strV M)) (hk : ∀ i, i < lm → strKey (M i)) (hin : ∀ i, i < lm → hs (M i) = true)
    (hc : w.cell? ⟨sb, 5, none⟩ = some (.map (some ib))) (hM : MapK Value.string strKey 9 (.int .i64 0) w ib n fi hs) (hfi : ∀ x, ∃ z, fi x = .int .i64 z) :
    Calls Tryf.prog 28 #[.pointer (some ⟨sb, 0, none⟩), ordV nm m p lm la, .slice oa ol oc] w fun e w' => e = .returned (.bool true) ∧ Below w.heap.size w w' := by
  have H : Hid (w.rowIs m 9 lm (strV M)) := hm
  have HK : Hid (∀ i, i < lm → strKey (M i)) := hk
  have HI : Hid (∀ i, i < lm → hs (M i) = true) := hin
  have HMP : Hid (MapK Value.string strKey 9 (.int .i64 0) w ib n fi hs) := hM
  have HFI : Hid (∀ x, ∃ z, fi x = .int .i64 z) := hfi
  have hli : (lm : Int) ≤ 4096 := by omega
  obtain ⟨w1, hw1⟩ : ∃ w1, w.alloc (.cells #[.string nm, .slice (some ⟨m, 0, none⟩) lm lm, .slice (some ⟨p, 0, none⟩) la la] 43) = w1 := ⟨_, rfl⟩
  have hb1 : Below w.heap.size w w1 := by rw [← hw1]; exact (Below.refl _ _).alloc (Nat.le_refl _) _
  have hc1 : w1.cell? ⟨sb, 5, none⟩ = some (.map (some ib)) := (hb1.cell (cell_lt hc)).trans hc
  have HB1 : Hid (Below w.heap.size w w1) := hb1
  have hblk : w1.heap[w.heap.size]? = some (.cells #[.string nm, .slice (some ⟨m, 0, none⟩) lm lm, .slice (some ⟨p, 0, none⟩) la la] 43 (0, 0)) := by rw [← hw1]; exact heap_alloc_new _ _
  have hbx : w1.cell? ⟨w.heap.size, 1, none⟩ = some (.slice (some ⟨m, 0, none⟩) lm lm) := by simp [World.cell?, hblk]
  clear hm hk hin hM hfi hb1 hblk
  unfold ordV
  go_enter Tryf.func28, Tryf.ntmps28
  go_wp2
  go_loop [14] (fun i => ∃ k : Nat, k ≤ lm ∧ i = .int .i64 k) (fun i => lm - (intOf i).toNat)
  case atStart => exact ⟨0, Nat.zero_le _, rfl⟩
  case round =>
    obtain ⟨k, hkl, rfl⟩ := hrel
    by_cases hlt : k < lm
    · have hcm : w1.cell? ⟨m, k, none⟩ = some (.string (M k)) := (rowIs_below H.out HB1.out).cell hlt
      have hlk := (HMP.out.kept (S := fun _ => False) (Foot.of_below HB1.out) id).look_ok law9 u73 (zero3 w1) (M k) (HK.out k hlt)
      rw [HI.out k hlt] at hlk
      obtain ⟨z, hz⟩ := HFI.out (M k)
      rw [hz] at hlk
      have hlti : (k : Int) < (lm : Int) := by omega
      clear hz
      go_wp2
      refine ⟨⟨k + 1, by omega, by go_num⟩, ?_⟩
      simp [intOf]; omega
    · obtain rfl : lm = k := by omega
      go_wp2
      go_ret
      exact ⟨rfl, HB1.out⟩
end Go.Proofs.Qxb6605818aFmt
