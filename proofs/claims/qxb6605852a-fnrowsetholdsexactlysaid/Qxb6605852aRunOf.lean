import Derived.Test.Qxb6605852aSmall
import Derived.RangeFuncNested
import Derived.RangeFuncBound
import Derived.RangeFuncCalls
import Derived.RangeFuncLeaves
import Derived.RangeFuncBox
import Derived.Shelf.Abstract
import Derived.Shelf.RegionOpen
import Derived.WalkKit
import Derived.OwnWalkIn
import Derived.TacticsInMore
import Derived.LoopNIn
import Derived.LoopIn
namespace Go.Proofs.Qxb6605852a
open Go.RowKit Go.Shelf
set_option linter.unusedVariables false

attribute [local go_sem] Oper.semAt_some

/-- The receiver's runs, as they are read: its first cell is a slice over a row that holds the runs, all of it below n₀. -/
structure Reads (n₀ : Nat) (w : World) (rb : Nat) (p : Option Addr) (g cap : Nat) (ss : List Seg) : Prop where
  lrb : rb < n₀
  lg : ss ≠ [] → g < n₀ ∧ p = some ⟨g, 0, none⟩
  slot : w.cell? ⟨rb, 0, none⟩ = some (.slice p (flat ss).length cap)
  room : (flat ss).length ≤ cap
  word : ∀ i, i < (flat ss).length → w.cell? ⟨g, i, none⟩ = some (.int .u64 (gw (flat ss) i : Nat))

theorem flat_ne_nil {ss : List Seg} {i : Nat} (h : i < (flat ss).length) : ss ≠ [] := by
  rintro rfl
  simp [flat] at h

theorem Reads.below {n₀ : Nat} {w w' : World} {rb g cap : Nat} {p : Option Addr} {ss : List Seg} (h : Reads n₀ w rb p g cap ss) (hb : Below n₀ w w') : Reads n₀ w' rb p g cap ss :=
  ⟨h.lrb, h.lg, (hb.cell (p := ⟨rb, 0, none⟩) h.lrb).trans h.slot, h.room, fun i hi => (hb.cell (p := ⟨g, i, none⟩) (h.lg (flat_ne_nil hi)).1).trans (h.word i hi)⟩

theorem grown_drewN (w : World) (n : Nat) (r : Option Nat) : w.grownBy (w.drewN n) r := ⟨rfl, rfl, rfl, Nat.le_refl _, fun _ _ _ => rfl⟩

theorem below_drewN {B : Nat} {a w : World} (h : Below B a w) (n : Nat) : Below B a (w.drewN n) := h.trans ⟨rfl, rfl, rfl, Nat.le_refl _, fun _ _ => rfl⟩

theorem run_seg {n₀ : Nat} {w : World} {rb g cap : Nat} {p : Option Addr} {ss : List Seg} (h : Reads n₀ w rb p g cap ss) (hG : Good ss) (j : Nat) (hj : j < ss.length) :
    Calls Try.prog 25 #[.pointer (some ⟨rb, 0, none⟩), .int .i64 (hix ss j : Nat)] w fun e w' => e = .returned (.tuple #[.int .u32 (ss[j].first : Nat), .int .u8 (ss[j].mode : Nat), .slice (some ⟨g, hix ss j + 1, none⟩) ss[j].words.length (cap - (hix ss j + 1))]) ∧ ∃ n, w' = w.drewN n := by
  have h1 := hix_le ss j hj
  obtain ⟨_, rfl⟩ := h.lg (flat_ne_nil (i := 0) (by omega))
  have h2 := hG.at j hj
  have h3 := h2.pos
  have h4 := h.word (hix ss j) (by omega)
  rw [gw_head ss j hj] at h4
  refine (run_any rb g cap (hix ss j) (flat ss).length ss[j].head ss[j].words.length w (by omega) hG.len h.room h3 (by omega) (head_lt _ h2 (hG.small j hj)) (head_len _ h2) h.slot h4).mono ?_
  rintro e w' ⟨rfl, hw⟩
  rw [head_first _ h2, head_mode _ h2]
  exact ⟨rfl, hw⟩

set_option maxRecDepth 100000 in
set_option maxHeartbeats 1000000 in
theorem heads1_in (n : Nat) (hn : 1 ≤ n) (l Bb n₀ rb g cap : Nat) (p : Option Addr) (ss : List Seg) (hG : Good ss) (hBb : Bb < n₀) (J Jx : List (Fin ss.length) → World → Prop)
    (hY : ∀ pre (x : Fin ss.length) W, J pre W → pre.length < ss.length → YieldAt Fence.wide (n - 1) Try.prog l #[.int .i64 (hix ss x.val : Nat)] W fun e W' =>
      (e = .returned (.bool true) ∧ J (pre ++ [x]) W' ∧ Below n₀ W W') ∨ (e = .returned (.bool false) ∧ Jx (pre ++ [x]) W'))
    (W : World) (hJab : AbidesFrom W.heap.size J) (hc : W.cell? ⟨Bb, 0, none⟩ = some (.pointer (some ⟨rb, 0, none⟩))) (hR : Reads n₀ W rb p g cap ss) (h0 : J [] W) :
    CallsIn Fence.wide n Try.prog 38 #[.func (.yield l) #[] #[], .pointer (some ⟨Bb, 0, none⟩)] W fun e W' => (∃ v, e = .returned v) ∧
      ((∃ ys, ys = List.finRange ss.length ∧ J ys W') ∨ (∃ pre, (∃ k, k ≤ ss.length ∧ pre = (List.finRange ss.length).take k) ∧ Jx pre W')) := by
  refine callsIn_of_wp Try.func38 rfl trivial ?_ rfl
  simp only [Try.ntmps38, List.size_toArray, List.length_cons, List.length_nil, Nat.reduceAdd, Nat.reduceSub, Array.replicate_succ, Array.replicate_zero, List.push_toArray, List.append_toArray, List.nil_append, List.cons_append]
  gi_wp2
  gi_loopw [3] (fun i wr => ∃ k : Nat, k ≤ ss.length ∧ i = .int .i64 (hix ss k : Nat) ∧ J ((List.finRange ss.length).take k) wr ∧ Below n₀ W wr)
    (fun i _ => (flat ss).length - (intOf i).toNat)
  case atStart => exact ⟨0, Nat.zero_le _, by rw [hix_zero]; rfl, h0, Below.refl _ _⟩
  case round =>
    obtain ⟨k, hk, rfl, hJs, hnx⟩ := hrel
    have hcx : wr.cell? ⟨Bb, 0, none⟩ = some (.pointer (some ⟨rb, 0, none⟩)) := (hnx.cell (p := ⟨Bb, 0, none⟩) hBb).trans hc
    have hRx := hR.below hnx
    have hcell := hRx.slot
    have hlen := hG.len
    by_cases hlt : k < ss.length
    · have h1 := hix_le ss k hlt
      have hi1 : (hix ss k : Int) < ((flat ss).length : Int) := by omega
      obtain ⟨fn, tmps, assign, body, hy, hRy⟩ := hY _ ⟨k, hlt⟩ wr hJs (by simp; omega)
      dsimp only at hy
      gi_wp2
      refine hRy.mono ?_
      rintro e W3 (⟨rfl, hJ3, hk3⟩ | ⟨rfl, hJx3⟩)
      · have hc3 : W3.cell? ⟨Bb, 0, none⟩ = some (.pointer (some ⟨rb, 0, none⟩)) := (hk3.cell (p := ⟨Bb, 0, none⟩) hBb).trans hcx
        have hR3 := hRx.below hk3
        have hrun := run_seg hR3 hG k hlt
        have hsm := hG.small k hlt
        gi_wp2
        refine ⟨trivial, (callsIn_wide.2 hrun).mono ?_⟩
        rintro e W4 ⟨rfl, n4, rfl⟩
        gi_wp2
        go_roundw
        case rel =>
          refine ⟨k + 1, hlt, val_int (by rw [hix_succ ss k hlt]; omega), ?_, below_drewN (hnx.trans hk3) _⟩
          refine hJab _ W3 _ none ?_ (grown_drewN _ _ _) (fun r e => by cases e)
          rw [List.take_succ_eq_append_getElem (by simp; exact hlt)]
          simpa using hJ3
        case measure => simp [intOf]; omega
      · gi_wp2
        refine bodyPost_ret (results_none rfl _ _ _) rfl ?_
        exact ⟨⟨_, rfl⟩, .inr ⟨_, ⟨k + 1, hlt, by rw [List.take_succ_eq_append_getElem (by simp; exact hlt)]; simp⟩, hJx3⟩⟩
    · obtain rfl : k = ss.length := by omega
      have hi1 : ¬ (hix ss ss.length : Int) < ((flat ss).length : Int) := by rw [hix_end]; omega
      gi_wp2
      go_end0
      exact ⟨⟨_, rfl⟩, .inl (by rwa [List.take_of_length_le (by simp)] at hJs)⟩

theorem heads_stops (n : Nat) (hn : 1 ≤ n) (Bb n₀ rb g cap : Nat) (p : Option Addr) (ss : List Seg) (hG : Good ss) (w : World) (hBb : Bb < w.heap.size) (hn₀ : n₀ ≤ w.heap.size) (hBn : Bb < n₀)
    (hc : w.cell? ⟨Bb, 0, none⟩ = some (.pointer (some ⟨rb, 0, none⟩))) (hR : Reads n₀ w rb p g cap ss) :
    SeqStopsK Fence.wide n Try.prog 38 #[.pointer (some ⟨Bb, 0, none⟩)] (fun x : Fin ss.length => #[Value.int .i64 (hix ss x.val : Nat)]) (Below n₀) (fun ys => ys = List.finRange ss.length)
      (fun pre => ∃ k, k ≤ ss.length ∧ pre = (List.finRange ss.length).take k) ss.length w := fun l J Jx W hW hJ _ hY h0 =>
  heads1_in n hn l Bb n₀ rb g cap p ss hG hBn J Jx hY W hJ ((hW.cell (p := ⟨Bb, 0, none⟩) hBb).trans hc) (hR.below (hW.mono hn₀)) h0

set_option maxHeartbeats 1000000 in
theorem heads_in (n : Nat) (p0 : Option Addr) (w : World) :
    CallsIn Fence.wide n Try.prog 35 #[.pointer p0] w fun e w' => e = .returned (.func (.func 38) #[] #[.pointer (some ⟨w.heap.size, 0, none⟩)]) ∧ w' = w.alloc (.cells #[.pointer p0] 29) := by
  refine callsIn_of_wp Try.func35 rfl trivial ?_ rfl
  simp only [Try.ntmps35, List.size_toArray, List.length_cons, List.length_nil, Nat.reduceAdd, Nat.reduceSub, Array.replicate_succ, Array.replicate_zero, List.push_toArray, List.append_toArray, List.nil_append, List.cons_append]
  gi_wp2
  go_ret
  exact ⟨rfl, rfl⟩
end Go.Proofs.Qxb6605852a
