import Derived.Test.Qxb6605852aLib
namespace Go.Proofs.Qxb6605852a
open Go.RowKit Go.Shelf
set_option linter.unusedVariables false

theorem reads_kept {w w' : World} {rb g cap : Nat} {p : Option Addr} {ss : List Seg} (hf : Foot (fun _ => False) w w') (h : Reads w.heap.size w rb p g cap ss) : Reads w'.heap.size w' rb p g cap ss := by
  have hb : Below w.heap.size w w' := ⟨hf.os, hf.tape, hf.output, hf.size, fun k hk => hf.block k hk id⟩
  have h2 := h.below hb
  have hs := hf.size
  exact ⟨by have := h2.lrb; omega, fun e => ⟨by have := (h2.lg e).1; omega, (h2.lg e).2⟩, h2.slot, h2.room, h2.word⟩

set_option maxRecDepth 100000 in
set_option maxHeartbeats 1000000 in
theorem drop_list1 (rb row m L j0 J0 n0 : Nat) (sv mv : Value) (ss : List Seg) (w : World) (hG : Good ss) (hL : (flat ss).length = L) (hl : L ≤ 99990) (hr : row < 4294967296) (hm : m < 32) (hH : RlAt w rb sv mv) (hW : Words w sv (flat ss))
    (hfirst : (∀ j (h : j < ss.length), ss[j].mode ≠ m) ∨ ∃ j, ∃ h : j < ss.length, ss[j].mode = m ∧ (∀ i (h : i < ss.length), ss[i].mode = m → i = j) ∧ inBits ss[j].words ((row + 4294967296 - ss[j].first) % 4294967296) = false)
    (hj0 : j0 < ss.length) (hm0 : ss[j0].mode = 0) (hJ0 : hix ss j0 = J0) (hn0 : ss[j0].words.length = n0) (hone0 : ∀ i (h : i < ss.length), ss[i].mode = 0 → i = j0) (hin : lw row m ∈ ss[j0].words) (hn1 : n0 = 1) :
    Calls Try.prog 22 #[.pointer (some ⟨rb, 0, none⟩), .int .u32 row, .int .u8 m] w fun e w' => e = .returned (.tuple #[]) ∧ ∃ sv', RlAt w' rb sv' mv ∧ Words w' sv' ((flat ss).take J0 ++ (flat ss).drop (J0 + 2)) ∧ SameOrNew w sv sv' ∧ Foot (fun k => k = rb ∨ sv.ownBlock = some k) w w' := by
  have HH : Hid (RlAt w rb sv mv) := hH
  have HW : Hid (Words w sv (flat ss)) := hW
  obtain ⟨p, g, cap, hsv, hR⟩ := reads_of hH hW
  rw [hL] at hsv
  clear hH hW
  have HFIRST : Hid _ := hfirst
  clear hfirst
  have HONE : Hid _ := hone0
  clear hone0
  obtain ⟨LW, HLW⟩ : ∃ LW, Hid (LW = lw row m) := ⟨_, rfl⟩
  have HIN : Hid (LW ∈ ss[j0].words) := by rw [HLW.out]; exact hin
  clear hin
  have HN1 : Hid (n0 = 1) := hn1
  have HJJ : Hid (J0 + (n0 + 1) ≤ L) := by have h := hix_le ss j0 hj0; rw [hJ0, hn0, hL] at h; exact h
  have HPE : Hid (p = some ⟨g, 0, none⟩) := (hR.lg (flat_ne_nil (i := 0) (by have := HJJ.out; omega))).2
  clear hn1
  rcases HFIRST.out with hA | ⟨j, hj, hmj, hone, hnb⟩
  · have hno : ∀ j (h : j < ss.length), ss[j].mode ≠ m := hA
    clear hA
    have HNO : Hid _ := hno
    clear hno
    go_enter Try.func22, Try.ntmps22
    go_wp2_with fail
    refine (runOf_any rb g cap m p ss hG (by omega) w hR).mono ?_
    rintro e w1 ⟨⟨r, hr1, rfl⟩, hB1⟩
    have hrm : r = -1 := by
      rcases hr1 with ⟨h, _⟩ | ⟨i, h, _, h0⟩
      · exact h
      · exact absurd h0 (HNO.out i h)
    subst hrm
    clear hr1
    have F1' : Foot (fun _ => False) w w1 := Foot.of_below hB1
    clear hB1
    go_wp2_with fail
    have hR1 : Reads w1.heap.size w1 rb p g cap ss := (reads_kept F1' hR)
    have HH1 : Hid (RlAt w1 rb sv mv) := HH.out.kept F1' id
    have HW1 : Hid (Words w1 sv (flat ss)) := words_kept HW.out F1' (fun _ _ => id)
    refine (runOf_any rb g cap 0 p ss hG (by omega) w1 hR1).mono ?_
    rintro e w2 ⟨⟨r, hr1, rfl⟩, hB2⟩
    have hrm : r = (J0 : Int) := by
      rcases hr1 with ⟨_, h⟩ | ⟨i, h, h0, h1⟩
      · exact absurd hm0 (h j0 hj0)
      · obtain rfl := HONE.out i h h1
        rw [h0, hJ0]
    subst hrm
    clear hr1
    have F2 : Foot (fun _ => False) w1 w2 := Foot.of_below hB2
    have hR2 := hR1.below hB2
    have hrun := run_seg hR2 hG j0 hj0
    rw [hJ0, hm0, hn0] at hrun
    have hI0 : (0 : Int) ≤ (J0 : Int) := by omega
    clear hB2
    go_wp2_with fail
    refine hrun.mono ?_
    rintro e w2' ⟨rfl, nd2, rfl⟩
    have F2' : Foot (fun _ => False) w (w2.drewN nd2) := F1'.trans (F2.trans (Foot.drewN _ _ _) (fun _ _ e => e)) (fun _ _ e => e)
    clear hrun hR2 F2 F1' HH1 HW1 hR1
    generalize w2.drewN nd2 = w3 at F2' ⊢
    have HH3 : Hid (RlAt w3 rb (.slice (some ⟨g, 0, none⟩) L cap) mv) := by have h := HH.out.kept F2' id; rw [hsv, HPE.out] at h; exact h
    have HW3 : Hid (Words w3 (.slice (some ⟨g, 0, none⟩) L cap) (flat ss)) := by have h := words_kept HW.out F2' (fun _ _ => id); rw [hsv, HPE.out] at h; exact h
    have hwd : ∀ i, i < n0 → w3.cell? ⟨g, J0 + 1 + i, none⟩ = some (.int .u64 (gw ss[j0].words i : Nat)) := by
      intro i hi
      have h1 := (flat_word HW3.out (J0 + 1 + i) (by have := HJJ.out; omega)).1
      rw [h1, ← hJ0, gw_word ss j0 i hj0 (by omega)]
    have HIX : Hid _ := index_any g (J0 + 1) n0 (cap - (J0 + 1)) LW ss[j0].words w3 hn0 (by have := HJJ.out; omega) hwd
    clear hwd
    have CLW : Hid (∀ w, Calls Try.prog 31 #[.int .u32 row, .int .u8 m] w fun e w' => e = .returned (.int .u64 (LW : Nat)) ∧ w' = w) := by rw [HLW.out]; exact listWord_any row m hr (by omega)
    go_wp2_with fail
    refine (CLW.out _).mono ?_
    rintro e w4 ⟨rfl, hw4⟩
    obtain rfl := hw4.symm
    go_wp2_with fail
    refine Calls.mono HIX.out ?_
    rintro e w4 ⟨⟨r, hr1, rfl⟩, hw4⟩
    obtain rfl := hw4.symm
    rcases hr1 with ⟨_, h⟩ | ⟨kk, hkk, rfl, hgk⟩
    · exact absurd HIN.out h
    have hk0 : (0 : Int) ≤ (kk : Int) := by omega
    have hn1' : ((n0 : Int) == 1) = true := by rw [HN1.out]; rfl
    have hdel := delete_any g L cap J0 (J0 + 2) (flat ss) w3 HW3.out hL (by omega) (by have := HJJ.out; have := HN1.out; omega)
    have hE : ((J0 + 2 : Nat) : Int) = (J0 : Int) + 2 := by omega
    have hE2 : L - (J0 + 2 - J0) = L - 2 := by omega
    rw [hE, hE2] at hdel
    clear hE2
    have HDEL : Hid _ := hdel
    clear hdel hE
    have c3 := HH3.out.c0
    have hJ6 : (J0 : Int) + 2 ≤ 100000 := by have := HJJ.out; have := HN1.out; omega
    go_wp2_with fail
    refine Calls.mono HDEL.out ?_
    rintro e w5 ⟨rfl, hW5, F5⟩
    have HH5 : Hid (RlAt w5 rb (.slice (some ⟨g, 0, none⟩) L cap) mv) := HH3.out.kept F5 (HH3.out.ne_words HW3.out rfl)
    have HW5 : Hid (Words w5 (.slice (some ⟨g, 0, none⟩) (L - 2) cap) ((flat ss).take J0 ++ (flat ss).drop (J0 + 2))) := hW5
    clear hW5
    have c5 := HH5.out.c0
    have f5 := HH5.out.fz 0
    go_wp2
    refine bodyPost_ret (results_none rfl _ _ _) rfl ?_
    have F6 : Foot (fun k => k = rb) w5 (w5.setCell ⟨rb, 0, none⟩ (.slice (some ⟨g, 0, none⟩) (L - 2) cap)) := Foot.setCell _ ⟨rb, 0, none⟩ _
    have hsb : sv.ownBlock = some g := by rw [hsv, HPE.out]; rfl
    refine ⟨rfl, _, HH5.out.set0 _, words_kept HW5.out F6 (fun b hb e => ?_), fun b hb => .inl (by rw [hsb]; exact hb), ?_⟩
    · simp [Value.ownBlock] at hb
      subst hb
      exact HH3.out.ne_words HW3.out rfl e.symm
    · exact ((F2'.mono (S' := fun k => k = rb ∨ sv.ownBlock = some k) (fun _ _ e => e.elim)).trans F5 (fun i _ e => .inr (by subst e; exact hsb))).trans F6 (fun i _ e => .inl e)

  · obtain ⟨n, hn⟩ : ∃ n, ss[j].words.length = n := ⟨_, rfl⟩
    obtain ⟨I, hI⟩ : ∃ I, hix ss j = I := ⟨_, rfl⟩
    obtain ⟨first, hfi⟩ : ∃ first, ss[j].first = first := ⟨_, rfl⟩
    rw [hfi] at hnb
    have HNB : Hid _ := hnb
    have HN : Hid _ := hone
    clear hnb hone
    have HJ : Hid (hix ss j + (ss[j].words.length + 1) ≤ (flat ss).length) := hix_le ss j hj
    obtain ⟨_, hpe⟩ := hR.lg (flat_ne_nil (i := 0) (by have := HJ.out; omega))
    have hf32 : first < 4294967296 := by rw [← hfi]; exact (hG.at j hj).first
    have hn2 : (n : Int) ≤ 100000 := by have := HJ.out; omega
    go_enter Try.func22, Try.ntmps22
    go_wp2_with fail
    refine (runOf_any rb g cap m _ ss hG (by omega) w hR).mono ?_
    rintro e w1 ⟨⟨r, hr1, rfl⟩, hB1⟩
    have hrm : r = (I : Int) := by
      rcases hr1 with ⟨_, h⟩ | ⟨i, h, h0, h1⟩
      · exact absurd hmj (h j hj)
      · obtain rfl := HN.out i h h1
        rw [h0, hI]
    subst hrm
    clear hr1
    have F1 : Foot (fun _ => False) w w1 := Foot.of_below hB1
    have hR1 := hR.below hB1
    have hrun := run_seg hR1 hG j hj
    rw [hI, hmj, hn, hfi] at hrun
    have hI0 : ¬ ((I : Int) < 0) := by omega
    go_wp2_with fail
    refine hrun.mono ?_
    rintro e w1' ⟨rfl, nd, rfl⟩
    have F1' : Foot (fun _ => False) w (w1.drewN nd) := F1.trans (Foot.drewN _ _ _) (fun _ _ e => e)
    clear hrun hR1 hB1 F1
    generalize w1.drewN nd = w1 at F1' ⊢
    have HW1 : Hid (Words w1 sv (flat ss)) := words_kept HW.out F1' (fun _ _ => id)
    have hwd : ∀ i, i < n → w1.cell? ⟨g, I + 1 + i, none⟩ = some (.int .u64 (gw ss[j].words i : Nat)) := by
      intro i hi
      have hw1 := HW1.out
      rw [hsv, hpe] at hw1
      have h1 := (flat_word hw1 (I + 1 + i) (by have := HJ.out; omega)).1
      rw [h1, ← hI, gw_word ss j i hj (by omega)]
    have hir := inRun_any row first _ g (I + 1) (cap - (I + 1)) ss[j].words w1 (by have := HJ.out; omega) hr hf32 rfl (fun i hi => (hG.at j hj).word _ (gw_in hi)) (fun i hi => hwd i (by omega))
    rw [hn, HNB.out] at hir
    clear hwd
    go_wp2_with fail
    refine hir.mono ?_
    rintro e w2 ⟨rfl, hw2⟩
    obtain rfl := hw2.symm
    clear hir
    go_wp2_with fail
    clear hfi hI hn hI0 hn2 hf32 HN HNB HJ hmj
    have hR1 : Reads w1.heap.size w1 rb p g cap ss := (reads_kept F1' hR)
    have HH1 : Hid (RlAt w1 rb sv mv) := HH.out.kept F1' id
    have HW1 : Hid (Words w1 sv (flat ss)) := words_kept HW.out F1' (fun _ _ => id)
    refine (runOf_any rb g cap 0 p ss hG (by omega) w1 hR1).mono ?_
    rintro e w2 ⟨⟨r, hr1, rfl⟩, hB2⟩
    have hrm : r = (J0 : Int) := by
      rcases hr1 with ⟨_, h⟩ | ⟨i, h, h0, h1⟩
      · exact absurd hm0 (h j0 hj0)
      · obtain rfl := HONE.out i h h1
        rw [h0, hJ0]
    subst hrm
    clear hr1
    have F2 : Foot (fun _ => False) w1 w2 := Foot.of_below hB2
    have hR2 := hR1.below hB2
    have hrun := run_seg hR2 hG j0 hj0
    rw [hJ0, hm0, hn0] at hrun
    have hI0 : (0 : Int) ≤ (J0 : Int) := by omega
    clear hB2
    go_wp2_with fail
    refine hrun.mono ?_
    rintro e w2' ⟨rfl, nd2, rfl⟩
    have F2' : Foot (fun _ => False) w (w2.drewN nd2) := F1'.trans (F2.trans (Foot.drewN _ _ _) (fun _ _ e => e)) (fun _ _ e => e)
    clear hrun hR2 F2 F1' HH1 HW1 hR1
    generalize w2.drewN nd2 = w3 at F2' ⊢
    have HH3 : Hid (RlAt w3 rb (.slice (some ⟨g, 0, none⟩) L cap) mv) := by have h := HH.out.kept F2' id; rw [hsv, HPE.out] at h; exact h
    have HW3 : Hid (Words w3 (.slice (some ⟨g, 0, none⟩) L cap) (flat ss)) := by have h := words_kept HW.out F2' (fun _ _ => id); rw [hsv, HPE.out] at h; exact h
    have hwd : ∀ i, i < n0 → w3.cell? ⟨g, J0 + 1 + i, none⟩ = some (.int .u64 (gw ss[j0].words i : Nat)) := by
      intro i hi
      have h1 := (flat_word HW3.out (J0 + 1 + i) (by have := HJJ.out; omega)).1
      rw [h1, ← hJ0, gw_word ss j0 i hj0 (by omega)]
    have HIX : Hid _ := index_any g (J0 + 1) n0 (cap - (J0 + 1)) LW ss[j0].words w3 hn0 (by have := HJJ.out; omega) hwd
    clear hwd
    have CLW : Hid (∀ w, Calls Try.prog 31 #[.int .u32 row, .int .u8 m] w fun e w' => e = .returned (.int .u64 (LW : Nat)) ∧ w' = w) := by rw [HLW.out]; exact listWord_any row m hr (by omega)
    go_wp2_with fail
    refine (CLW.out _).mono ?_
    rintro e w4 ⟨rfl, hw4⟩
    obtain rfl := hw4.symm
    go_wp2_with fail
    refine Calls.mono HIX.out ?_
    rintro e w4 ⟨⟨r, hr1, rfl⟩, hw4⟩
    obtain rfl := hw4.symm
    rcases hr1 with ⟨_, h⟩ | ⟨kk, hkk, rfl, hgk⟩
    · exact absurd HIN.out h
    have hk0 : (0 : Int) ≤ (kk : Int) := by omega
    have hn1' : ((n0 : Int) == 1) = true := by rw [HN1.out]; rfl
    have hdel := delete_any g L cap J0 (J0 + 2) (flat ss) w3 HW3.out hL (by omega) (by have := HJJ.out; have := HN1.out; omega)
    have hE : ((J0 + 2 : Nat) : Int) = (J0 : Int) + 2 := by omega
    have hE2 : L - (J0 + 2 - J0) = L - 2 := by omega
    rw [hE, hE2] at hdel
    clear hE2
    have HDEL : Hid _ := hdel
    clear hdel hE
    have c3 := HH3.out.c0
    have hJ6 : (J0 : Int) + 2 ≤ 100000 := by have := HJJ.out; have := HN1.out; omega
    go_wp2_with fail
    refine Calls.mono HDEL.out ?_
    rintro e w5 ⟨rfl, hW5, F5⟩
    have HH5 : Hid (RlAt w5 rb (.slice (some ⟨g, 0, none⟩) L cap) mv) := HH3.out.kept F5 (HH3.out.ne_words HW3.out rfl)
    have HW5 : Hid (Words w5 (.slice (some ⟨g, 0, none⟩) (L - 2) cap) ((flat ss).take J0 ++ (flat ss).drop (J0 + 2))) := hW5
    clear hW5
    have c5 := HH5.out.c0
    have f5 := HH5.out.fz 0
    go_wp2
    refine bodyPost_ret (results_none rfl _ _ _) rfl ?_
    have F6 : Foot (fun k => k = rb) w5 (w5.setCell ⟨rb, 0, none⟩ (.slice (some ⟨g, 0, none⟩) (L - 2) cap)) := Foot.setCell _ ⟨rb, 0, none⟩ _
    have hsb : sv.ownBlock = some g := by rw [hsv, HPE.out]; rfl
    refine ⟨rfl, _, HH5.out.set0 _, words_kept HW5.out F6 (fun b hb e => ?_), fun b hb => .inl (by rw [hsb]; exact hb), ?_⟩
    · simp [Value.ownBlock] at hb
      subst hb
      exact HH3.out.ne_words HW3.out rfl e.symm
    · exact ((F2'.mono (S' := fun k => k = rb ∨ sv.ownBlock = some k) (fun _ _ e => e.elim)).trans F5 (fun i _ e => .inr (by subst e; exact hsb))).trans F6 (fun i _ e => .inl e)
end Go.Proofs.Qxb6605852a
