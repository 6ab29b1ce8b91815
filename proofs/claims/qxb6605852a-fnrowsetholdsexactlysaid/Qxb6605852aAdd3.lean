import Derived.Test.Qxb6605852aAdd2
namespace Go.Proofs.Qxb6605852a
open Go.RowKit Go.Shelf
set_option linter.unusedVariables false

set_option maxRecDepth 100000 in
set_option maxHeartbeats 1000000 in
theorem add_apart (rb row m L j I n first off q d d2 Bf : Nat) (R : World → Prop) (sv mv : Value) (ss : List Seg) (w : World) (hG : Good ss) (hL : (flat ss).length = L) (hl : L ≤ 99990) (hr : row < 4294967296) (hm : m < 32) (hH : RlAt w rb sv mv) (hW : Words w sv (flat ss))
    (hj : j < ss.length) (hmj : ss[j].mode = m) (hI : hix ss j = I) (hn : ss[j].words.length = n) (hone : ∀ i (h : i < ss.length), ss[i].mode = m → i = j)
    (hfi : ss[j].first = first) (ho : off = (row + 4294967296 - first) % 4294967296) (hq : q = off / 64) (hqn : n + 2 ≤ q) (hd : d = (first + 4294967296 - row) % 4294967296) (hd2 : d2 = (d + 63) % 4294967296) (hBf : Bf = d2 / 64) (hB3 : 3 ≤ Bf)
    (hkeep : ∀ w1, Foot (fun _ => False) w w1 → Calls Try.prog 34 #[.pointer (some ⟨rb, 0, none⟩), .int .u32 row, .int .u8 m] w1 fun e w' => e = .returned (.tuple #[]) ∧ R w') :
    Calls Try.prog 23 #[.pointer (some ⟨rb, 0, none⟩), .int .u32 row, .int .u8 m] w fun e w' => e = .returned (.tuple #[]) ∧ R w' := by
  have HH : Hid (RlAt w rb sv mv) := hH
  have HW : Hid (Words w sv (flat ss)) := hW
  obtain ⟨p, g, cap, hsv, hR⟩ := reads_of hH hW
  rw [hL] at hsv
  clear hH hW
  have HJ : Hid (hix ss j + (ss[j].words.length + 1) ≤ (flat ss).length) := hix_le ss j hj
  obtain ⟨_, rfl⟩ := hR.lg (flat_ne_nil (i := 0) (by have := HJ.out; omega))
  have HN : Hid (∀ i (h : i < ss.length), ss[i].mode = m → i = j) := hone
  clear hone
  have hf32 : first < 4294967296 := by rw [← hfi]; exact (hG.at j hj).first
  have hoff : off < 4294967296 := by omega
  have eo : ((row : Int) - (first : Int)) % 4294967296 = (off : Int) := by omega
  have eq1 : (off : Int) / 64 = (q : Int) := by omega
  have hq1 : q < 67108864 := by omega
  have hn2 : (n : Int) ≤ 100000 := by have := HJ.out; omega
  have hqn2 : (n : Int) ≤ (q : Int) := by omega
  have hqn3 : ¬ (q : Int) - (n : Int) + 1 ≤ 2 := by omega
  have e75 : ((first : Int) - (row : Int)) % 4294967296 = (d : Int) := by omega
  have e76 : ((d : Int) + 63) % 4294967296 = (d2 : Int) := by omega
  have e77 : (d2 : Int) / 64 = (Bf : Int) := by omega
  have hB4 : ¬ (Bf : Int) ≤ 2 := by omega
  have hB5 : (Bf : Int) ≤ 67108864 := by omega
  have hKEEP : Hid (∀ w1, Foot (fun _ => False) w w1 → Calls Try.prog 34 #[.pointer (some ⟨rb, 0, none⟩), .int .u32 row, .int .u8 m] w1 fun e w' => e = .returned (.tuple #[]) ∧ R w') := hkeep
  have HQ : Hid (q = off / 64 ∧ off = (row + 4294967296 - first) % 4294967296 ∧ d = (first + 4294967296 - row) % 4294967296 ∧ d2 = (d + 63) % 4294967296 ∧ Bf = d2 / 64) := ⟨hq, ho, hd, hd2, hBf⟩
  clear hq ho hkeep hd hd2 hBf
  go_enter Try.func23, Try.ntmps23
  go_wp2_with fail
  refine (runOf_any rb g cap m _ ss hG (by omega) w hR).mono ?_
  rintro e w1 ⟨⟨r, hr1, rfl⟩, hB1⟩
  have hrm : r = (I : Int) := by
    rcases hr1 with ⟨_, h⟩ | ⟨i, h, h0, h1⟩
    · exact absurd hmj (h j hj)
    · obtain rfl := HN.out i h h1
      rw [h0, hI]
  subst hrm
  clear hr1
  have F1 : Foot (fun _ => False) w w1 := Foot.of_below hB1
  have hR1 := hR.below hB1
  have hrun := run_seg hR1 hG j hj
  rw [hI, hmj, hn, hfi] at hrun
  have hI0 : ¬ ((I : Int) < 0) := by omega
  go_wp2_with fail
  refine hrun.mono ?_
  rintro e w1' ⟨rfl, nd, rfl⟩
  have F1' : Foot (fun _ => False) w (w1.drewN nd) := F1.trans (Foot.drewN _ _ _) (fun _ _ e => e)
  clear hrun hR1 hB1 F1
  generalize w1.drewN nd = w1 at F1' ⊢
  have HH1 : Hid (RlAt w1 rb sv mv) := HH.out.kept F1' id
  have HW1 : Hid (Words w1 sv (flat ss)) := words_kept HW.out F1' (fun _ _ => id)
  subst hsv
  go_wp2_with fail
  refine (hKEEP.out w1 F1').mono ?_
  rintro e w2 ⟨rfl, hRR⟩
  go_wp2
  refine bodyPost_ret (results_none rfl _ _ _) rfl ?_
  exact ⟨rfl, hRR⟩
end Go.Proofs.Qxb6605852a
