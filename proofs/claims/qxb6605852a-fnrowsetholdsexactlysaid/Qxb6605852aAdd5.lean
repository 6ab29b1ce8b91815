import Derived.Test.Qxb6605852aAdd2
namespace Go.Proofs.Qxb6605852a
open Go.RowKit Go.Shelf
set_option linter.unusedVariables false

set_option maxRecDepth 400000 in
set_option maxHeartbeats 1000000 in
theorem add_before (rb row m L j I n first off q k A T P N2 d d2 f2 off2 q2' : Nat) (sv mv : Value) (ss : List Seg) (w : World) (hG : Good ss) (hL : (flat ss).length = L) (hl : L ≤ 99990) (hr : row < 4294967296) (hm : m < 32) (hH : RlAt w rb sv mv) (hW : Words w sv (flat ss))
    (hj : j < ss.length) (hmj : ss[j].mode = m) (hI : hix ss j = I) (hn : ss[j].words.length = n) (hone : ∀ i (h : i < ss.length), ss[i].mode = m → i = j)
    (hfi : ss[j].first = first) (ho : off = (row + 4294967296 - first) % 4294967296) (hq : q = off / 64) (hqn : n + 2 ≤ q) (hdd : d = (first + 4294967296 - row) % 4294967296) (hd2 : d2 = (d + 63) % 4294967296) (hA : A = d2 / 64) (hA1 : 1 ≤ A) (hA2 : A ≤ 2)
    (hf2 : f2 = (first + 4294967296 - A * 64) % 4294967296) (ho2 : off2 = (row + 4294967296 - f2) % 4294967296) (hq2 : q2' = off2 / 64) (hk : k = off2 % 64) (hqA : q2' < A) (hT : T = I + 1) (hP : P = I + 1 + q2') (hN2 : N2 = n + A) :
    Calls Try.prog 23 #[.pointer (some ⟨rb, 0, none⟩), .int .u32 row, .int .u8 m] w fun e w' => e = .returned (.tuple #[]) ∧ ∃ sv', RlAt w' rb sv' mv ∧ Words w' sv' (((ins (flat ss) T A).set I (hd f2 m N2)).set P (2 ^ k)) ∧ SameOrNew w sv sv' ∧ Foot (fun k => k = rb ∨ sv.ownBlock = some k) w w' := by
  have HH : Hid (RlAt w rb sv mv) := hH
  have HW : Hid (Words w sv (flat ss)) := hW
  obtain ⟨p, g, cap, hsv, hR⟩ := reads_of hH hW
  rw [hL] at hsv
  clear hH hW
  have HJ : Hid (hix ss j + (ss[j].words.length + 1) ≤ (flat ss).length) := hix_le ss j hj
  obtain ⟨_, rfl⟩ := hR.lg (flat_ne_nil (i := 0) (by have := HJ.out; omega))
  have HN : Hid (∀ i (h : i < ss.length), ss[i].mode = m → i = j) := hone
  clear hone
  have hf32 : first < 4294967296 := by rw [← hfi]; exact (hG.at j hj).first
  have hoff : off < 4294967296 := by omega
  have eo : ((row : Int) - (first : Int)) % 4294967296 = (off : Int) := by omega
  have eq1 : (off : Int) / 64 = (q : Int) := by omega
  have hoff2 : off2 < 4294967296 := by omega
  have hf232 : f2 < 4294967296 := by omega
  have eb := u32_and63 off2 hoff2
  rw [← hk] at eb
  have hk64 : k < 64 := by omega
  have hn2 : (n : Int) ≤ 100000 := by have := HJ.out; omega
  have hq1 : q < 67108864 := by omega
  have hqn2 : (n : Int) ≤ (q : Int) := by omega
  have e75 : ((first : Int) - (row : Int)) % 4294967296 = (d : Int) := by omega
  have e77 : ((d : Int) + 63) / 64 = (A : Int) := by omega
  have e78 : d ≤ 4294967232 := by omega
  have hA4 : (A : Int) ≤ 2 := by omega
  have hA5 : (A : Int) * 64 ≤ 128 := by omega
  have e79 : ((first : Int) - (A : Int) * 64) % 4294967296 = (f2 : Int) := by omega
  have e80 : ((row : Int) - (f2 : Int)) % 4294967296 = (off2 : Int) := by omega
  have e81 : (off2 : Int) / 64 = (q2' : Int) := by omega
  have hT3 : (I : Int) + 1 = (T : Int) := by omega
  have hN3 : (n : Int) + (A : Int) = (N2 : Int) := by omega
  have hP3 : (T : Int) + (q2' : Int) = (P : Int) := by omega
  have hP4 : (P : Int) ≤ 200010 := by have := HJ.out; omega
  have hI5 : (I : Int) ≤ 100000 := by have := HJ.out; omega
  have hT5 : (T : Int) ≤ 100001 := by have := HJ.out; omega
  have hq25 : (q2' : Int) < 2 := by omega
  obtain ⟨Y, HY⟩ : ∃ Y : Nat, Hid (Y = 2 ^ k) := ⟨2 ^ k, show 2 ^ k = 2 ^ k from rfl⟩
  obtain ⟨H0, HH0⟩ : ∃ H0, Hid (H0 = hd f2 m N2) := ⟨_, rfl⟩
  rw [← HY.out, ← HH0.out]
  have hor : bits .or .u64 0 (IntKind.u64.wrap ((2 : Int) ^ k)) = (Y : Int) := by
    rw [HY.out]
    have := or_bit 0 k (by omega) hk64 (by simp)
    simpa using this
  have CHD : Hid (∀ w, Calls Try.prog 32 #[.int .u32 f2, .int .u8 m, .int .i64 N2] w fun e w' => e = .returned (.int .u64 (H0 : Nat)) ∧ w' = w) := by rw [HH0.out]; exact runHead_any f2 m N2 hf232 hm (by omega)
  have HV : Hid (1 ≤ A ∧ T = I + 1 ∧ P = I + 1 + q2' ∧ N2 = n + A ∧ q2' < A) := ⟨hA1, hT, hP, hN2, hqA⟩
  clear hq hk ho hA hT hP hN2 hdd hd2 hf2 ho2 hq2
  go_enter Try.func23, Try.ntmps23
  go_wp2_with fail
  refine (runOf_any rb g cap m _ ss hG (by omega) w hR).mono ?_
  rintro e w1 ⟨⟨r, hr1, rfl⟩, hB1⟩
  have hrm : r = (I : Int) := by
    rcases hr1 with ⟨_, h⟩ | ⟨i, h, h0, h1⟩
    · exact absurd hmj (h j hj)
    · obtain rfl := HN.out i h h1
      rw [h0, hI]
  subst hrm
  clear hr1
  have F1 : Foot (fun _ => False) w w1 := Foot.of_below hB1
  have hR1 := hR.below hB1
  have hrun := run_seg hR1 hG j hj
  rw [hI, hmj, hn, hfi] at hrun
  have hI0 : ¬ ((I : Int) < 0) := by omega
  go_wp2_with fail
  refine hrun.mono ?_
  rintro e w1' ⟨rfl, nd, rfl⟩
  have F1' : Foot (fun _ => False) w (w1.drewN nd) := F1.trans (Foot.drewN _ _ _) (fun _ _ e => e)
  clear hrun hR1 hB1 F1
  generalize w1.drewN nd = w1 at F1' ⊢
  have HH1 : Hid (RlAt w1 rb sv mv) := HH.out.kept F1' id
  have HW1 : Hid (Words w1 sv (flat ss)) := words_kept HW.out F1' (fun _ _ => id)
  subst hsv
  have c1 := HH1.out.c0
  have HINS : Hid _ := insert_any (.slice (some ⟨g, 0, none⟩) L cap) (flat ss) T A w1 HW1.out (by omega) (by have := HJ.out; have := HV.out; omega) (by have := HV.out; omega) (by omega)
  go_wp2_with fail
  refine Calls.mono HINS.out ?_
  rintro e w2 ⟨v2, rfl, hW2, hg2, hsn2⟩
  clear e75 e77 e78 eq1 eo hqn2 hqn
  have hil := ins_length (flat ss) T A (by have := HJ.out; have := HV.out; omega)
  obtain ⟨N, hN⟩ : ∃ N, N = L + A := ⟨_, rfl⟩
  rw [hL, ← hN] at hil
  obtain ⟨g2, zs2, hv2, hR2, hz1, hz2, hz3, hz4⟩ := words_some hW2 (by intro h; rw [h] at hil; have := HV.out; simp at hil; omega)
  rw [hil] at hv2 hz1
  have F2 : Foot (fun k => (Value.slice (some (⟨g, 0, none⟩ : Addr)) L cap).ownBlock = some k) w1 w2 := Foot.of_grown hg2
  have HH2 : Hid (RlAt w2 rb (.slice (some ⟨g, 0, none⟩) L cap) mv) := HH1.out.kept F2 (fun e => HH1.out.ne_words HW1.out e rfl)
  have hf2 := HH2.out.fz 0
  have hc2 := HH2.out.c0
  obtain ⟨C, HC⟩ : ∃ C, Hid (C = zs2.length) := ⟨_, rfl⟩
  rw [← HC.out] at hv2
  have HW2 : Hid (Words w2 v2 (ins (flat ss) T A)) := hW2
  subst hv2
  clear hW2 hz2
  have HN2 : Hid (N = L + A) := hN
  clear hN
  have HR2 : Hid (RowAt w2 g2 zs2) := hR2
  clear hR2
  go_wp2_with fail
  rw [e79, e80]
  clear e79 e80
  have HH3 : Hid (RlAt (w2.setCell ⟨rb, 0, none⟩ (.slice (some ⟨g2, 0, none⟩) N C)) rb (.slice (some ⟨g2, 0, none⟩) N C) mv) := HH2.out.set0 _
  have HF3 : Hid (Foot (fun k => k = rb) w2 (w2.setCell ⟨rb, 0, none⟩ (.slice (some ⟨g2, 0, none⟩) N C))) := by show Foot _ _ _; exact Foot.setCell _ ⟨rb, 0, none⟩ _
  have HR3 : Hid (RowAt (w2.setCell ⟨rb, 0, none⟩ (.slice (some ⟨g2, 0, none⟩) N C)) g2 zs2) := HR2.out.of_block (heap_setCell_ne _ _ _ _ (HH2.out.ne HR2.out))
  have HW3 : Hid (Words (w2.setCell ⟨rb, 0, none⟩ (.slice (some ⟨g2, 0, none⟩) N C)) (.slice (some ⟨g2, 0, none⟩) N C) (ins (flat ss) T A)) := by
    refine words_kept HW2.out HF3.out (fun b hb => ?_)
    simp [Value.ownBlock] at hb
    subst hb
    exact fun e => HH2.out.ne HR2.out e.symm
  generalize w2.setCell ⟨rb, 0, none⟩ (.slice (some ⟨g2, 0, none⟩) N C) = w3 at HH3 HF3 HR3 HW3 ⊢
  have HVV : Hid (I < T ∧ T ≤ P ∧ P < T + A ∧ T ≤ L) := by have := HV.out; have := HJ.out; show _ ∧ _; omega
  have k0 : w3.cell? ⟨rb, 0, none⟩ = some (.slice (some ⟨g2, 0, none⟩) N C) := HH3.out.c0
  obtain ⟨k1, k3⟩ := flat_word HW3.out I (by have := HVV.out; have := HN2.out; omega)
  obtain ⟨k2, k4⟩ := flat_word HW3.out P (by have := HVV.out; have := HN2.out; omega)
  have hz : gw (ins (flat ss) T A) P = 0 := by
    have := HVV.out
    unfold ins
    rw [gw_append_right (by simp; omega), gw_append_left (by simp; omega), gw_replicate]
  rw [hz] at k2
  have q1 : (0 : Int) ≤ (I : Int) := by omega
  have q2 : (I : Int) < (N : Int) := by have := HN2.out; have := HVV.out; omega
  have q3 : (P : Int) < (N : Int) := by have := HN2.out; have := HVV.out; omega
  have q5 : (0 : Int) ≤ (P : Int) := by omega
  have hn1 : rb ≠ g2 := HH3.out.ne HR3.out
  have r1 : ∀ (x : World) (v : Value) (i : Nat), (x.setCell ⟨g2, i, none⟩ v).cell? ⟨rb, 0, none⟩ = x.cell? ⟨rb, 0, none⟩ := fun x v i => World.cell?_of_block (heap_setCell_ne _ _ _ _ (fun e => hn1 e.symm))
  have r2 : ∀ (x : World) (v : Value), (x.setCell ⟨g2, I, none⟩ v).cell? ⟨g2, P, none⟩ = x.cell? ⟨g2, P, none⟩ := fun x v => World.cell?_setCell_other _ _ _ _ (by have := HVV.out; intro e; simp only [Addr.mk.injEq] at e; omega)
  go_region_held3 (fun w' => w'.cell? ⟨rb, 0, none⟩ = some (.slice (some ⟨g2, 0, none⟩) N C)) (first | go_keep | (simp only [World.cell?_drew, r1]; assumption)) (first | (refine (CHD.out _).mono ?_; rintro e w4 ⟨rfl, hw4⟩; obtain rfl := hw4.symm))
  obtain ⟨a1, a2, a3⟩ := one_store (i := I) (a := H0) HH3.out HW3.out
  have m0 : ((w3.setCell ⟨g2, I, none⟩ (.int .u64 (H0 : Nat))).drew).cell? ⟨rb, 0, none⟩ = some (.slice (some ⟨g2, 0, none⟩) N C) := a1.c0
  have m1 : ((w3.setCell ⟨g2, I, none⟩ (.int .u64 (H0 : Nat))).drew).cell? ⟨g2, P, none⟩ = some (.int .u64 0) := by rw [World.cell?_drew, r2]; exact k2
  have m2 : ((w3.setCell ⟨g2, I, none⟩ (.int .u64 (H0 : Nat))).drew).frozen? ⟨g2, P, none⟩ = false := (flat_word a2 P (by have := HVV.out; have := HN2.out; simp; omega)).2
  have HA1 : Hid (RlAt ((w3.setCell ⟨g2, I, none⟩ (.int .u64 (H0 : Nat))).drew) rb (.slice (some ⟨g2, 0, none⟩) N C) mv) := a1.drew
  have HA2 : Hid (Words ((w3.setCell ⟨g2, I, none⟩ (.int .u64 (H0 : Nat))).drew) (.slice (some ⟨g2, 0, none⟩) N C) ((ins (flat ss) T A).set I H0)) := words_drew a2
  have HA3 : Hid (Foot (fun k => k = g2) w3 ((w3.setCell ⟨g2, I, none⟩ (.int .u64 (H0 : Nat))).drew)) := drew_foot a3
  clear a1 a2 a3
  generalize (w3.setCell ⟨g2, I, none⟩ (.int .u64 (H0 : Nat))).drew = w4 at m0 m1 m2 HA1 HA2 HA3 ⊢
  go_wp2
  go_end0
  obtain ⟨b1, b2, b3⟩ := one_store (i := P) (a := Y) HA1.out HA2.out
  obtain ⟨d1, d2⟩ := keep_chain F1' F2 HF3.out (HA3.out.trans b3 (fun _ _ e => e)) hsn2
  exact ⟨rfl, _, b1, b2, d2, d1⟩
end Go.Proofs.Qxb6605852a
