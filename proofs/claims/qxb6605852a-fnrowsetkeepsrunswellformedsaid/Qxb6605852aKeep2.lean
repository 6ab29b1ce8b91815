import Derived.Test.Qxb6605852aRl
namespace Go.Proofs.Qxb6605852a
open Go.RowKit Go.Shelf
set_option linter.unusedVariables false

set_option maxHeartbeats 1000000 in
theorem keep_room (rb row m L j I n P : Nat) (sv mv : Value) (ss : List Seg) (w : World) (hG : Good ss) (hL : (flat ss).length = L) (hl : L ≤ 99990) (hr : row < 4294967296) (hm : m < 32) (hH : RlAt w rb sv mv) (hW : Words w sv (flat ss))
    (hj : j < ss.length) (hmj : ss[j].mode = 0) (hI : hix ss j = I) (hn : ss[j].words.length = n) (hn16 : n < 16) (hP : P = I + 1 + n) (hone : ∀ i (h : i < ss.length), ss[i].mode = 0 → i = j) :
    Calls Try.prog 34 #[.pointer (some ⟨rb, 0, none⟩), .int .u32 row, .int .u8 m] w fun e w' => e = .returned (.tuple #[]) ∧ ∃ sv', RlAt w' rb sv' mv ∧ Words w' sv' (((ins (flat ss) P 1).set I (hd 0 0 (n + 1))).set P (lw row m)) ∧ SameOrNew w sv sv' ∧ Foot (fun k => k = rb ∨ sv.ownBlock = some k) w w' := by
  have HH : Hid (RlAt w rb sv mv) := hH
  have HW : Hid (Words w sv (flat ss)) := hW
  obtain ⟨p, g, cap, hsv, hR⟩ := reads_of hH hW
  rw [hL] at hsv
  clear hH hW
  have HN : Hid (∀ i (h : i < ss.length), ss[i].mode = 0 → i = j) := hone
  clear hone
  have HJ : Hid (hix ss j + (ss[j].words.length + 1) ≤ (flat ss).length) := hix_le ss j hj
  have hPL : P ≤ L := by have := HJ.out; omega
  have HP : Hid (P = I + 1 + n) := hP
  clear hP
  obtain ⟨H0, HH0⟩ : ∃ H0, Hid (H0 = hd 0 0 (n + 1)) := ⟨_, rfl⟩
  obtain ⟨W0, HW0⟩ : ∃ W0, Hid (W0 = lw row m) := ⟨_, rfl⟩
  have CHD : Hid (∀ w, Calls Try.prog 32 #[.int .u32 0, .int .u8 0, .int .i64 ((n : Int) + 1)] w fun e w' => e = .returned (.int .u64 (H0 : Nat)) ∧ w' = w) := by rw [HH0.out]; exact runHead_any 0 0 (n + 1) (by omega) (by omega) (by omega)
  have CLW : Hid (∀ w, Calls Try.prog 31 #[.int .u32 row, .int .u8 m] w fun e w' => e = .returned (.int .u64 (W0 : Nat)) ∧ w' = w) := by rw [HW0.out]; exact listWord_any row m hr (by omega)
  rw [← HH0.out, ← HW0.out]
  go_enter Try.func34, Try.ntmps34
  go_wp2_with fail
  refine (runOf_any rb g cap 0 p ss hG (by omega) w hR).mono ?_
  rintro e w1 ⟨⟨r, hr1, rfl⟩, hB1⟩
  have hrm : r = (I : Int) := by
    rcases hr1 with ⟨_, h⟩ | ⟨i, h, h0, h1⟩
    · exact absurd hmj (h j hj)
    · obtain rfl := HN.out i h h1
      rw [h0, hI]
  subst hrm
  clear hr1
  have F1 : Foot (fun _ => False) w w1 := Foot.of_below hB1
  have HH1 : Hid (RlAt w1 rb sv mv) := HH.out.kept F1 id
  have HW1 : Hid (Words w1 sv (flat ss)) := words_kept HW.out F1 (fun _ _ => id)
  have c1 := HH1.out.c0
  rw [hsv] at c1
  have HSV : Hid (sv = .slice p L cap) := hsv
  clear hsv
  have hR1 := hR.below hB1
  have hrun := run_seg hR1 hG j hj
  rw [hI, hmj, hn] at hrun
  have hI0 : ¬ ((I : Int) < 0) := by omega
  have hI1 : (I : Int) + 1 + (n : Int) ≤ (L : Int) := by have := HP.out; omega
  go_wp2_with fail
  refine hrun.mono ?_
  rintro e w1' ⟨rfl, nd, rfl⟩
  have hRP : (I : Int) + 1 + (n : Int) = ((P : Nat) : Int) := by have := HP.out; omega
  have HRP : Hid ((I : Int) + 1 + (n : Int) = ((P : Nat) : Int)) := hRP
  clear hRP
  have F1' : Foot (fun _ => False) w (w1.drewN nd) := F1.trans (Foot.drewN _ _ _) (fun _ _ e => e)
  replace HH1 : Hid (RlAt (w1.drewN nd) rb sv mv) := HH1.out
  replace HW1 : Hid (Words (w1.drewN nd) sv (flat ss)) := HW1.out
  replace c1 : (w1.drewN nd).cell? ⟨rb, 0, none⟩ = some (.slice p L cap) := c1
  clear hrun hR1 hB1 F1
  generalize w1.drewN nd = w1 at F1' HH1 HW1 c1 ⊢
  have F1 := F1'
  clear F1'
  have h16 : (n : Int) < 16 := by omega
  have hw1 : Words w1 (.slice p L cap) (flat ss) := by rw [← HSV.out]; exact HW1.out
  have hins := insert_any (.slice p L cap) (flat ss) P 1 w1 hw1 (by omega) (by omega) (by omega) (by omega)
  rw [← HRP.out] at hins
  have HINS : Hid _ := hins
  clear hins
  go_wp2_with fail
  refine Calls.mono HINS.out ?_
  rintro e w2 ⟨v2, rfl, hW2, hg2, hsn2⟩
  have hil := ins_length (flat ss) P 1 (by omega)
  obtain ⟨N, hN⟩ : ∃ N, N = L + 1 := ⟨_, rfl⟩
  rw [hL, ← hN] at hil
  obtain ⟨g2, zs2, hv2, hR2, hz1, hz2, hz3, hz4⟩ := words_some hW2 (by intro h; rw [h] at hil; simp at hil; omega)
  rw [hil] at hv2 hz1
  have hg2' : w1.grownBy w2 sv.ownBlock := by rw [HSV.out]; exact hg2
  have F2 : Foot (fun k => sv.ownBlock = some k) w1 w2 := Foot.of_grown hg2'
  have HH2 : Hid (RlAt w2 rb sv mv) := HH1.out.kept F2 (fun e => HH1.out.ne_words HW1.out e rfl)
  have hf2 := HH2.out.fz 0
  have hc2 := HH2.out.c0
  rw [HSV.out] at hc2
  obtain ⟨C, HC⟩ : ∃ C, Hid (C = zs2.length) := ⟨_, rfl⟩
  rw [← HC.out] at hv2
  have HW2 : Hid (Words w2 v2 (ins (flat ss) P 1)) := hW2
  have HV2 : Hid (v2 = .slice (some ⟨g2, 0, none⟩) N C) := hv2
  subst hv2
  clear hW2 hz2
  have HN2 : Hid (N = L + 1) := hN
  clear hN
  have HR2 : Hid (RowAt w2 g2 zs2) := hR2
  clear hR2
  go_wp2_with fail
  have HH3 : Hid (RlAt (w2.setCell ⟨rb, 0, none⟩ (.slice (some ⟨g2, 0, none⟩) N C)) rb (.slice (some ⟨g2, 0, none⟩) N C) mv) := HH2.out.set0 _
  have HF3 : Hid (Foot (fun k => k = rb) w2 (w2.setCell ⟨rb, 0, none⟩ (.slice (some ⟨g2, 0, none⟩) N C))) := by show Foot _ _ _; exact Foot.setCell _ ⟨rb, 0, none⟩ _
  have HR3 : Hid (RowAt (w2.setCell ⟨rb, 0, none⟩ (.slice (some ⟨g2, 0, none⟩) N C)) g2 zs2) := HR2.out.of_block (heap_setCell_ne _ _ _ _ (HH2.out.ne HR2.out))
  have HW3 : Hid (Words (w2.setCell ⟨rb, 0, none⟩ (.slice (some ⟨g2, 0, none⟩) N C)) (.slice (some ⟨g2, 0, none⟩) N C) (ins (flat ss) P 1)) := by
    refine words_kept HW2.out HF3.out (fun b hb => ?_)
    simp [Value.ownBlock] at hb
    subst hb
    exact fun e => HH2.out.ne HR2.out e.symm
  generalize w2.setCell ⟨rb, 0, none⟩ (.slice (some ⟨g2, 0, none⟩) N C) = w3 at HH3 HF3 HR3 HW3 ⊢
  have k0 : w3.cell? ⟨rb, 0, none⟩ = some (.slice (some ⟨g2, 0, none⟩) N C) := HH3.out.c0
  have k1 : w3.cell? ⟨g2, I, none⟩ = some (.int .u64 (gw zs2 I : Nat)) := HR3.out.cell I (by have := HN2.out; have := HP.out; omega)
  have k2 : w3.cell? ⟨g2, P, none⟩ = some (.int .u64 (gw zs2 P : Nat)) := HR3.out.cell P (by have := HN2.out; have := HP.out; omega)
  have k3 : w3.frozen? ⟨g2, I, none⟩ = false := HR3.out.frozen _
  have k4 : w3.frozen? ⟨g2, P, none⟩ = false := HR3.out.frozen _
  have q1 : (0 : Int) ≤ (I : Int) := by omega
  have q2 : (I : Int) < (N : Int) := by have := HN2.out; omega
  have q3 : (P : Int) < (N : Int) := by have := HN2.out; omega
  have q4 : IntKind.i64.wrap ((I : Int) + 1) = (I : Int) + 1 := by rw [IntKind.wrap_i64]; omega
  have q5 : (0 : Int) ≤ (P : Int) := by omega
  have q6 : IntKind.i64.wrap ((I : Int) + 1 + (n : Int)) = (P : Int) := by have := HRP.out; rw [IntKind.wrap_i64]; omega
  have q7 : IntKind.i64.wrap ((n : Int) + 1) = (n : Int) + 1 := by rw [IntKind.wrap_i64]; omega
  have hn1 : rb ≠ g2 := HH3.out.ne HR3.out
  have r1 : ∀ (x : World) (v : Value) (i : Nat), (x.setCell ⟨g2, i, none⟩ v).cell? ⟨rb, 0, none⟩ = x.cell? ⟨rb, 0, none⟩ := fun x v i => World.cell?_of_block (heap_setCell_ne _ _ _ _ (fun e => hn1 e.symm))
  have r2 : ∀ (x : World) (v : Value), (x.setCell ⟨g2, I, none⟩ v).cell? ⟨g2, P, none⟩ = x.cell? ⟨g2, P, none⟩ := fun x v => World.cell?_setCell_other _ _ _ _ (by have := HP.out; intro e; simp only [Addr.mk.injEq] at e; omega)
  go_region_held3 (fun w' => w'.cell? ⟨rb, 0, none⟩ = some (.slice (some ⟨g2, 0, none⟩) N C)) (first | go_keep | (simp only [World.cell?_drew, r1]; assumption)) (first | (refine (CHD.out _).mono ?_; rintro e w4 ⟨rfl, hw4⟩; obtain rfl := hw4.symm) | (refine (CLW.out _).mono ?_; rintro e w4 ⟨rfl, hw4⟩; obtain rfl := hw4.symm))
  go_wp2
  refine bodyPost_ret (results_none rfl _ _ _) rfl ?_
  obtain ⟨a1, a2, a3⟩ := two_stores (i := I) (a := H0) (j := P) (b := W0) HH3.out HW3.out
  have hsn : SameOrNew w1 sv (.slice (some ⟨g2, 0, none⟩) N C) := by rw [HSV.out]; exact hsn2
  obtain ⟨b1, b2⟩ := keep_chain F1 F2 HF3.out (drew_foot a3) hsn
  exact ⟨rfl, _, a1.drew, words_drew a2, b2, b1⟩
end Go.Proofs.Qxb6605852a
