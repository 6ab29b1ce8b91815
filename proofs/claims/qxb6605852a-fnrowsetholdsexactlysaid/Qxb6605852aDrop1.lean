import Derived.Test.Qxb6605852aLib
namespace Go.Proofs.Qxb6605852a
open Go.RowKit Go.Shelf
set_option linter.unusedVariables false

set_option maxRecDepth 100000 in
set_option maxHeartbeats 1000000 in
theorem drop_bit (rb row m L j I n first off q k x P : Nat) (sv mv : Value) (ss : List Seg) (w : World) (hG : Good ss) (hL : (flat ss).length = L) (hl : L ≤ 99990) (hr : row < 4294967296) (hm : m < 32) (hH : RlAt w rb sv mv) (hW : Words w sv (flat ss))
    (hj : j < ss.length) (hmj : ss[j].mode = m) (hI : hix ss j = I) (hn : ss[j].words.length = n) (hone : ∀ i (h : i < ss.length), ss[i].mode = m → i = j)
    (hfi : ss[j].first = first) (ho : off = (row + 4294967296 - first) % 4294967296) (hq : q = off / 64) (hk : k = off % 64) (hqn : q < n) (hP : P = I + 1 + q) (hx : gw (flat ss) P = x) (hbit : x.testBit k = true) (hleft : ((ss[j].words.set q (x - 2 ^ k)).any (fun x => decide (x ≠ 0))) = true) :
    Calls Try.prog 22 #[.pointer (some ⟨rb, 0, none⟩), .int .u32 row, .int .u8 m] w fun e w' => e = .returned (.tuple #[]) ∧ RlAt w' rb sv mv ∧ Words w' sv ((flat ss).set P (x - 2 ^ k)) ∧ Foot (fun k => sv.ownBlock = some k) w w' := by
  have HH : Hid (RlAt w rb sv mv) := hH
  have HW : Hid (Words w sv (flat ss)) := hW
  obtain ⟨p, g, cap, hsv, hR⟩ := reads_of hH hW
  rw [hL] at hsv
  clear hH hW
  have HJ : Hid (hix ss j + (ss[j].words.length + 1) ≤ (flat ss).length) := hix_le ss j hj
  obtain ⟨_, rfl⟩ := hR.lg (flat_ne_nil (i := 0) (by have := HJ.out; omega))
  have HN : Hid (∀ i (h : i < ss.length), ss[i].mode = m → i = j) := hone
  clear hone
  have hf32 : first < 4294967296 := by rw [← hfi]; exact (hG.at j hj).first
  have hoff : off < 4294967296 := by omega
  have eo : ((row : Int) - (first : Int)) % 4294967296 = (off : Int) := by omega
  have eq1 : (off : Int) / 64 = (q : Int) := by omega
  have eb := u32_and63 off hoff
  rw [← hk] at eb
  have hk64 : k < 64 := by omega
  have hq1 : q < 67108864 := by omega
  have hqn2 : ¬ (n : Int) ≤ (q : Int) := by omega
  have hn2 : (n : Int) ≤ 100000 := by have := HJ.out; omega
  have hx64 : x < 18446744073709551616 := by
    rw [← hx]
    exact flat_lt hG _ (gw_in (by have := HJ.out; omega))
  obtain ⟨Y, HY⟩ : ∃ Y : Nat, Hid (Y = x - 2 ^ k) := ⟨x - 2 ^ k, show x - 2 ^ k = x - 2 ^ k from rfl⟩
  rw [← HY.out]
  have hor : bits .andNot .u64 (x : Int) (IntKind.u64.wrap ((2 : Int) ^ k)) = (Y : Int) := by rw [HY.out]; exact andNot_bit x k hx64 hk64 hbit
  have HPL : Hid (P < L) := by have := HJ.out; show _ < _; omega
  have hP2 : (I : Int) + 1 + (q : Int) = (P : Int) := by omega
  have hPL2 : (P : Int) < (L : Int) := by have := HPL.out; omega
  have HX : Hid (gw (flat ss) P = x) := hx
  have HP : Hid (P = I + 1 + q) := hP
  have HQ : Hid (q = off / 64 ∧ k = off % 64 ∧ off = (row + 4294967296 - first) % 4294967296) := ⟨hq, hk, ho⟩
  have HB : Hid (x.testBit k = true) := hbit
  have HL : Hid (((ss[j].words.set q Y).any (fun x => decide (x ≠ 0))) = true) := by rw [HY.out]; exact hleft
  clear hq hk ho hx hP hbit hleft
  go_enter Try.func22, Try.ntmps22
  go_wp2_with fail
  refine (runOf_any rb g cap m _ ss hG (by omega) w hR).mono ?_
  rintro e w1 ⟨⟨r, hr1, rfl⟩, hB1⟩
  have hrm : r = (I : Int) := by
    rcases hr1 with ⟨_, h⟩ | ⟨i, h, h0, h1⟩
    · exact absurd hmj (h j hj)
    · obtain rfl := HN.out i h h1
      rw [h0, hI]
  subst hrm
  clear hr1
  have F1 : Foot (fun _ => False) w w1 := Foot.of_below hB1
  have hR1 := hR.below hB1
  have hrun := run_seg hR1 hG j hj
  rw [hI, hmj, hn, hfi] at hrun
  have hI0 : ¬ ((I : Int) < 0) := by omega
  go_wp2_with fail
  refine hrun.mono ?_
  rintro e w1' ⟨rfl, nd, rfl⟩
  have F1' : Foot (fun _ => False) w (w1.drewN nd) := F1.trans (Foot.drewN _ _ _) (fun _ _ e => e)
  clear hrun hR1 hB1 F1
  generalize w1.drewN nd = w1 at F1' ⊢
  have HH1 : Hid (RlAt w1 rb sv mv) := HH.out.kept F1' id
  have HW1 : Hid (Words w1 sv (flat ss)) := words_kept HW.out F1' (fun _ _ => id)
  subst hsv
  have c1 := HH1.out.c0
  obtain ⟨k1, k2⟩ := flat_word HW1.out P (by have := HPL.out; omega)
  rw [HX.out] at k1
  have hwd : ∀ i, i < n → w1.cell? ⟨g, I + 1 + i, none⟩ = some (.int .u64 (gw ss[j].words i : Nat)) := by
    intro i hi
    have h1 := (flat_word HW1.out (I + 1 + i) (by have := HJ.out; omega)).1
    rw [h1, ← hI, gw_word ss j i hj (by omega)]
  have hxq : gw ss[j].words q = x := by
    rw [← HX.out, HP.out, ← hI, gw_word ss j q hj (by omega)]
  have hir := inRun_any row first off g (I + 1) (cap - (I + 1)) ss[j].words w1 (by have := HJ.out; omega) hr hf32 HQ.out.2.2 (fun i hi => (hG.at j hj).word _ (gw_in hi)) (fun i hi => hwd i (by omega))
  rw [hn] at hir
  have hib : inBits ss[j].words off = true := by
    unfold inBits
    rw [← HQ.out.1, ← HQ.out.2.1, hxq, HB.out, hn]
    simp [hqn]
  rw [hib] at hir
  have HWD : Hid _ := hwd
  clear hwd
  go_wp2_with fail
  refine hir.mono ?_
  rintro e w2 ⟨rfl, hw2⟩
  obtain rfl := hw2.symm
  clear hir
  rw [HP.out] at k1 k2
  obtain ⟨a1, a2, a3⟩ := one_store (i := I + 1 + q) (a := Y) HH1.out HW1.out
  have m1 : (w1.setCell ⟨g, I + 1 + q, none⟩ (.int .u64 (Y : Nat))).cell? ⟨g, I + 1 + q, none⟩ = some (.int .u64 (Y : Nat)) := World.cell?_setCell_same' _ _ _ (by rw [k1]; rfl)
  have HA1 : Hid (RlAt (w1.setCell ⟨g, I + 1 + q, none⟩ (.int .u64 (Y : Nat))) rb (.slice (some ⟨g, 0, none⟩) L cap) mv) := a1
  have HA2 : Hid (Words (w1.setCell ⟨g, I + 1 + q, none⟩ (.int .u64 (Y : Nat))) (.slice (some ⟨g, 0, none⟩) L cap) ((flat ss).set P Y)) := by rw [HP.out]; exact a2
  have HA3 : Hid (Foot (fun k => k = g) w1 (w1.setCell ⟨g, I + 1 + q, none⟩ (.int .u64 (Y : Nat)))) := a3
  clear a1 a2 a3
  have hqn3 : (q : Int) < (n : Int) := by omega
  by_cases hY0 : Y = 0
  · have hY1 : ((Y : Int) == 0) = true := by
      rw [hY0]
      rfl
    have hwd2 : ∀ i, i < n → (w1.setCell ⟨g, I + 1 + q, none⟩ (.int .u64 (Y : Nat))).cell? ⟨g, I + 1 + i, none⟩ = some (.int .u64 (gw (ss[j].words.set q Y) i : Nat)) := by
      intro i hi
      by_cases hiq : i = q
      · subst hiq
        rw [m1, gw_set_same (by omega)]
      · rw [gw_set_other (fun e => hiq e.symm), ← HWD.out i hi]
        exact World.cell?_setCell_other _ _ _ _ (by intro e; simp only [Addr.mk.injEq] at e; omega)
    have HCN : Hid _ := contains_any g (I + 1) n (cap - (I + 1)) (ss[j].words.set q Y) _ (by simp; omega) (by omega) hwd2
    clear hwd2 hY0
    go_wp2_with fail
    refine Calls.mono HCN.out ?_
    rintro e w2 ⟨rfl, nq, rfl⟩
    rw [HL.out]
    go_wp2
    refine bodyPost_ret (results_none rfl _ _ _) rfl ?_
    refine ⟨rfl, HA1.out, HA2.out, (F1'.mono (fun _ _ e => e.elim)).trans (HA3.out.trans (Foot.drewN (fun k => k = g) _ nq) (fun _ _ e => e)) (fun i _ e => by subst e; rfl)⟩
  · have hY1 : ((Y : Int) == 0) = false := by
      rw [beq_eq_false_iff_ne]
      omega
    go_wp2_with fail
    refine bodyPost_ret (results_none rfl _ _ _) rfl ?_
    exact ⟨rfl, HA1.out, HA2.out, (F1'.mono (fun _ _ e => e.elim)).trans HA3.out (fun i _ e => by subst e; rfl)⟩
end Go.Proofs.Qxb6605852a
