import Derived.Test.Qxb6605852aDrop3
namespace Go.Proofs.Qxb6605852a
open Go.RowKit Go.Shelf
set_option linter.unusedVariables false

theorem del_all {w : World} {b n sz : Nat} {f : Nat → Nat} {hs : Nat → Bool} (h : MapF 50 53 .u32 w b n f hs sz) (r : Nat) (hr : r < 4294967296) :
    ∃ w', (∀ ty, (Builtin.delete_ #[50, 24] ty #[.map (some b), .int .u32 (r : Int)]).run Try.prog w = .ok (.tuple #[]) w') ∧ MapF 50 53 .u32 w' b n (upd f r 0) (upd hs r false) (sz - if hs r then 1 else 0) ∧ Foot (fun k => k = b) w w' := by
  obtain ⟨w', h1, h2⟩ := h.del u50 r hr 0
  refine ⟨w', fun ty => ?_, h2⟩
  exact h1

theorem MapF.empty {T E : TypeId} {q : IntKind} {w : World} {b n sz : Nat} {f : Nat → Nat} {hs : Nat → Bool} (h : MapF T E q w b n f hs sz) (h0 : sz = 0) (r : Nat) (hr : r < 4294967296) : hs r = false := by
  obtain ⟨D, h1, _, h3, h4⟩ := h
  obtain ⟨es, rfl⟩ := h1.isMap
  rw [← h3 r hr]
  rw [h0, Maps.size_eq] at h4
  rw [List.length_eq_zero_iff.1 h4, Maps.has_eq]
  rfl

theorem andNot32 (m : Nat) (hm : m < 32) : bits .andNot .u32 ((2 ^ m : Nat) : Int) ((2 : Int) ^ m % 4294967296) = 0 := by
  have h := wrap32_pow m hm
  rw [IntKind.wrap_u32] at h
  rw [h]
  have key : ∀ m : Fin 32, bits .andNot .u32 ((2 ^ m.val : Nat) : Int) ((2 ^ m.val : Nat) : Int) = 0 := by decide
  exact key ⟨m, hm⟩

set_option maxRecDepth 100000 in
set_option maxHeartbeats 1000000 in
theorem drop_spill (rb row m L sn sz : Nat) (sv mv : Value) (ss : List Seg) (f : Nat → Nat) (w : World) (hG : Good ss) (hL : (flat ss).length = L) (hl : L ≤ 99990) (hr : row < 4294967296) (hm : m < 32) (hH : RlAt w rb sv mv) (hW : Words w sv (flat ss))
    (hfirst : (∀ j (h : j < ss.length), ss[j].mode ≠ m) ∨ ∃ j, ∃ h : j < ss.length, ss[j].mode = m ∧ (∀ i (h : i < ss.length), ss[i].mode = m → i = j) ∧ inBits ss[j].words ((row + 4294967296 - ss[j].first) % 4294967296) = false)
    (hlist : (∀ j (h : j < ss.length), ss[j].mode ≠ 0) ∨ ∃ j, ∃ h : j < ss.length, ss[j].mode = 0 ∧ (∀ i (h : i < ss.length), ss[i].mode = 0 → i = j) ∧ lw row m ∉ ss[j].words)
    (hS : Spill w mv sn f sz) (hsz : sz ≤ 1000000) (hfr : f row = 2 ^ m) (hfz : ∀ r, 4294967296 ≤ r → f r = 0) :
    Calls Try.prog 22 #[.pointer (some ⟨rb, 0, none⟩), .int .u32 row, .int .u8 m] w fun e w' => e = .returned (.tuple #[]) ∧ ∃ mv', RlAt w' rb sv mv' ∧ Words w' sv (flat ss) ∧ Spill w' mv' sn (upd f row 0) (sz - 1) ∧ (∀ b, mapBlock? mv' = some b → mapBlock? mv = some b) ∧ Foot (fun k => k = rb ∨ mapBlock? mv = some k) w w' := by
  have HH : Hid (RlAt w rb sv mv) := hH
  have HW : Hid (Words w sv (flat ss)) := hW
  obtain ⟨p, g, cap, hsv, hR⟩ := reads_of hH hW
  rw [hL] at hsv
  clear hH hW
  have HFIRST : Hid _ := hfirst
  clear hfirst
  have HLIST : Hid _ := hlist
  clear hlist
  have HFZ : Hid (∀ r, 4294967296 ≤ r → f r = 0) := hfz
  clear hfz
  obtain ⟨X, HX⟩ : ∃ X : Nat, Hid (X = 2 ^ m) := ⟨2 ^ m, show 2 ^ m = 2 ^ m from rfl⟩
  have HFR : Hid (f row = X) := by rw [HX.out]; exact hfr
  have hX0 : X ≠ 0 := by rw [HX.out]; exact Nat.ne_of_gt (Nat.pow_pos (by omega))
  have HX0 : Hid (X ≠ 0) := hX0
  clear hfr hX0
  obtain ⟨b, hmv, hM⟩ : ∃ b, mv = .map (some b) ∧ MapF 50 53 .u32 w b sn f (fun r => decide (f r ≠ 0)) sz := by
    rcases hS with ⟨_, h, _⟩ | h
    · exact absurd (h row) (by rw [HFR.out]; exact HX0.out)
    · exact h
  clear hS
  subst hmv
  have HM : Hid (MapF 50 53 .u32 w b sn f (fun r => decide (f r ≠ 0)) sz) := hM
  clear hM
  have han : bits .andNot .u32 (X : Int) ((2 : Int) ^ m % 4294967296) = 0 := by rw [HX.out]; exact andNot32 m hm
  have hsz2 : (sz : Int) ≤ 1000000 := by omega
  obtain ⟨SZ, HSZ⟩ : ∃ SZ, Hid (SZ = sz - 1) := ⟨_, rfl⟩
  rw [← HSZ.out]
  rcases HFIRST.out with hA | ⟨j, hj, hmj, hone, hnb⟩
  · have hno : ∀ j (h : j < ss.length), ss[j].mode ≠ m := hA
    clear hA
    have HNO : Hid _ := hno
    clear hno
    go_enter Try.func22, Try.ntmps22
    go_wp2_with fail
    refine (runOf_any rb g cap m p ss hG (by omega) w hR).mono ?_
    rintro e w1 ⟨⟨r, hr1, rfl⟩, hB1⟩
    have hrm : r = -1 := by
      rcases hr1 with ⟨h, _⟩ | ⟨i, h, _, h0⟩
      · exact h
      · exact absurd h0 (HNO.out i h)
    subst hrm
    clear hr1
    have F1' : Foot (fun _ => False) w w1 := Foot.of_below hB1
    clear hB1
    go_wp2_with fail
    rcases HLIST.out with hnl | ⟨j0, hj0, hm0, hone0, hin⟩
    · have hR1 : Reads w1.heap.size w1 rb p g cap ss := (reads_kept F1' hR)
      refine (runOf_any rb g cap 0 p ss hG (by omega) w1 hR1).mono ?_
      rintro e w3 ⟨⟨r, hr1, rfl⟩, hB2⟩
      have hrm : r = -1 := by
        rcases hr1 with ⟨h, _⟩ | ⟨i, h, _, h0⟩
        · exact h
        · exact absurd h0 (hnl i h)
      subst hrm
      clear hr1 hnl
      have F2' : Foot (fun _ => False) w w3 := F1'.trans (Foot.of_below hB2) (fun _ _ e => e)
      clear hB2 hR1
      have HH3 : Hid (RlAt w3 rb sv (.map (some b))) := HH.out.kept F2' id
      have HW3 : Hid (Words w3 sv (flat ss)) := words_kept HW.out F2' (fun _ _ => id)
      have HM3 : Hid (MapF 50 53 .u32 w3 b sn f (fun r => decide (f r ≠ 0)) sz) := HM.out.kept F2' id
      have c3 := HH3.out.c1
      have hlook := HM3.out.look u50 u53 (zero53 _) row hr
      rw [HFR.out] at hlook
      obtain ⟨w4, hdel, hM4, F4⟩ : ∃ w', (∀ ty, (Builtin.delete_ #[50, 24] ty #[.map (some b), .int .u32 (row : Int)]).run Try.prog w3 = .ok (.tuple #[]) w') ∧ MapF 50 53 .u32 w' b sn (upd f row 0) (upd (fun r => decide (f r ≠ 0)) row false) (sz - if decide (f row ≠ 0) then 1 else 0) ∧ Foot (fun k => k = b) w3 w' := del_all HM3.out row hr
      have e1 : (sz - if decide (f row ≠ 0) then 1 else 0) = sz - 1 := by rw [HFR.out]; simp [HX0.out]
      have e2 : (upd (fun r => decide (f r ≠ 0)) row false) = fun r => decide (upd f row 0 r ≠ 0) := by
        funext i
        by_cases hi : i = row
        · simp [upd, hi]
        · simp [upd, hi]
      rw [e1, e2] at hM4
      clear e1 e2
      rw [← HSZ.out] at hM4
      have hlen := fun ty => hM4.len u50 ty
      have HM4 : Hid (MapF 50 53 .u32 w4 b sn (upd f row 0) (fun r => decide (upd f row 0 r ≠ 0)) SZ) := hM4
      clear hM4
      have HH4 : Hid (RlAt w4 rb sv (.map (some b))) := HH3.out.kept F4 (HH3.out.ne_map HM3.out)
      have HW4 : Hid (Words w4 sv (flat ss)) := by
        refine words_kept HW3.out F4 (fun k hk e => ?_)
        subst e
        rcases HW3.out with ⟨rfl, _⟩ | ⟨g', zs, rfl, hR', _⟩
        · simp [Value.ownBlock] at hk
        · simp [Value.ownBlock] at hk
          subst hk
          exact hR'.ne_map HM3.out rfl
      have c4 := HH4.out.c1
      have f4 := HH4.out.fz 1
      have FF : Foot (fun k => k = rb ∨ mapBlock? (.map (some b)) = some k) w w4 := (F2'.mono (fun _ _ e => e.elim)).trans F4 (fun i _ e => .inr (by simp [mapBlock?, e]))
      by_cases hs0 : SZ = 0
      · have hs1 : ((SZ : Int) == 0) = true := by rw [hs0]; rfl
        have HS0 : Hid (SZ = 0) := hs0
        clear hs0
        go_wp2_with fail
        go_end0
        have F5 : Foot (fun k => k = rb) w4 (w4.setCell ⟨rb, 1, none⟩ (.map none)) := Foot.setCell _ ⟨rb, 1, none⟩ _
        refine ⟨rfl, .map none, HH4.out.set1 _, words_kept HW4.out F5 (fun k hk e => HH4.out.ne_words HW4.out hk e.symm), .inl ⟨rfl, fun r => ?_, HS0.out⟩, fun k hk => by simp [mapBlock?] at hk, FF.trans F5 (fun i _ e => .inl e)⟩
        by_cases hr32 : r < 4294967296
        · have := HM4.out.empty HS0.out r hr32
          simpa using this
        · have h1 := HFZ.out r (by omega)
          have h2 : r ≠ row := by omega
          simp [upd, h2, h1]
      · have hs1 : ((SZ : Int) == 0) = false := by rw [beq_eq_false_iff_ne]; omega
        have HS0 : Hid (SZ ≠ 0) := hs0
        clear hs0
        go_wp2_with fail
        go_end0
        exact ⟨rfl, .map (some b), HH4.out, HW4.out, .inr ⟨b, rfl, HM4.out⟩, fun k hk => hk, FF⟩

    · obtain ⟨J0, hJ0⟩ : ∃ J0, hix ss j0 = J0 := ⟨_, rfl⟩
      obtain ⟨n0, hn0⟩ : ∃ n0, ss[j0].words.length = n0 := ⟨_, rfl⟩
      have HONE : Hid _ := hone0
      clear hone0
      obtain ⟨LW, HLW⟩ : ∃ LW, Hid (LW = lw row m) := ⟨_, rfl⟩
      have HIN : Hid (LW ∉ ss[j0].words) := by rw [HLW.out]; exact hin
      clear hin
      have HJJ : Hid (J0 + (n0 + 1) ≤ L) := by have h := hix_le ss j0 hj0; rw [hJ0, hn0, hL] at h; exact h
      have HPE : Hid (p = some ⟨g, 0, none⟩) := (hR.lg (flat_ne_nil (i := 0) (by have := HJJ.out; omega))).2
      have hR1 : Reads w1.heap.size w1 rb p g cap ss := (reads_kept F1' hR)
      have HH1 : Hid (RlAt w1 rb sv (.map (some b))) := HH.out.kept F1' id
      have HW1 : Hid (Words w1 sv (flat ss)) := words_kept HW.out F1' (fun _ _ => id)
      refine (runOf_any rb g cap 0 p ss hG (by omega) w1 hR1).mono ?_
      rintro e w2 ⟨⟨r, hr1, rfl⟩, hB2⟩
      have hrm : r = (J0 : Int) := by
        rcases hr1 with ⟨_, h⟩ | ⟨i, h, h0, h1⟩
        · exact absurd hm0 (h j0 hj0)
        · obtain rfl := HONE.out i h h1
          rw [h0, hJ0]
      subst hrm
      clear hr1
      have F2 : Foot (fun _ => False) w1 w2 := Foot.of_below hB2
      have hR2 := hR1.below hB2
      have hrun := run_seg hR2 hG j0 hj0
      rw [hJ0, hm0, hn0] at hrun
      have hI0 : (0 : Int) ≤ (J0 : Int) := by omega
      clear hB2
      go_wp2_with fail
      refine hrun.mono ?_
      rintro e w2' ⟨rfl, nd2, rfl⟩
      have F2' : Foot (fun _ => False) w (w2.drewN nd2) := F1'.trans (F2.trans (Foot.drewN _ _ _) (fun _ _ e => e)) (fun _ _ e => e)
      clear hrun hR2 F2 F1' HH1 HW1 hR1
      generalize w2.drewN nd2 = w3 at F2' ⊢
      have HW3' : Hid (Words w3 (.slice (some ⟨g, 0, none⟩) L cap) (flat ss)) := by have h := words_kept HW.out F2' (fun _ _ => id); rw [hsv, HPE.out] at h; exact h
      have hwd : ∀ i, i < n0 → w3.cell? ⟨g, J0 + 1 + i, none⟩ = some (.int .u64 (gw ss[j0].words i : Nat)) := by
        intro i hi
        have h1 := (flat_word HW3'.out (J0 + 1 + i) (by have := HJJ.out; omega)).1
        rw [h1, ← hJ0, gw_word ss j0 i hj0 (by omega)]
      have HIX : Hid _ := index_any g (J0 + 1) n0 (cap - (J0 + 1)) LW ss[j0].words w3 hn0 (by have := HJJ.out; omega) hwd
      clear hwd
      have CLW : Hid (∀ w, Calls Try.prog 31 #[.int .u32 row, .int .u8 m] w fun e w' => e = .returned (.int .u64 (LW : Nat)) ∧ w' = w) := by rw [HLW.out]; exact listWord_any row m hr (by omega)
      go_wp2_with fail
      refine (CLW.out _).mono ?_
      rintro e w4 ⟨rfl, hw4⟩
      obtain rfl := hw4.symm
      go_wp2_with fail
      refine Calls.mono HIX.out ?_
      rintro e w4 ⟨⟨r, hr1, rfl⟩, hw4⟩
      obtain rfl := hw4.symm
      have hrm : r = -1 := by
        rcases hr1 with ⟨h, _⟩ | ⟨kk, hkk, _, hgk⟩
        · exact h
        · exact absurd (hgk ▸ gw_in (by omega)) HIN.out
      subst hrm
      clear hr1
      have HH3 : Hid (RlAt w3 rb sv (.map (some b))) := HH.out.kept F2' id
      have HW3 : Hid (Words w3 sv (flat ss)) := words_kept HW.out F2' (fun _ _ => id)
      have HM3 : Hid (MapF 50 53 .u32 w3 b sn f (fun r => decide (f r ≠ 0)) sz) := HM.out.kept F2' id
      have c3 := HH3.out.c1
      have hlook := HM3.out.look u50 u53 (zero53 _) row hr
      rw [HFR.out] at hlook
      obtain ⟨w4, hdel, hM4, F4⟩ : ∃ w', (∀ ty, (Builtin.delete_ #[50, 24] ty #[.map (some b), .int .u32 (row : Int)]).run Try.prog w3 = .ok (.tuple #[]) w') ∧ MapF 50 53 .u32 w' b sn (upd f row 0) (upd (fun r => decide (f r ≠ 0)) row false) (sz - if decide (f row ≠ 0) then 1 else 0) ∧ Foot (fun k => k = b) w3 w' := del_all HM3.out row hr
      have e1 : (sz - if decide (f row ≠ 0) then 1 else 0) = sz - 1 := by rw [HFR.out]; simp [HX0.out]
      have e2 : (upd (fun r => decide (f r ≠ 0)) row false) = fun r => decide (upd f row 0 r ≠ 0) := by
        funext i
        by_cases hi : i = row
        · simp [upd, hi]
        · simp [upd, hi]
      rw [e1, e2] at hM4
      clear e1 e2
      rw [← HSZ.out] at hM4
      have hlen := fun ty => hM4.len u50 ty
      have HM4 : Hid (MapF 50 53 .u32 w4 b sn (upd f row 0) (fun r => decide (upd f row 0 r ≠ 0)) SZ) := hM4
      clear hM4
      have HH4 : Hid (RlAt w4 rb sv (.map (some b))) := HH3.out.kept F4 (HH3.out.ne_map HM3.out)
      have HW4 : Hid (Words w4 sv (flat ss)) := by
        refine words_kept HW3.out F4 (fun k hk e => ?_)
        subst e
        rcases HW3.out with ⟨rfl, _⟩ | ⟨g', zs, rfl, hR', _⟩
        · simp [Value.ownBlock] at hk
        · simp [Value.ownBlock] at hk
          subst hk
          exact hR'.ne_map HM3.out rfl
      have c4 := HH4.out.c1
      have f4 := HH4.out.fz 1
      have FF : Foot (fun k => k = rb ∨ mapBlock? (.map (some b)) = some k) w w4 := (F2'.mono (fun _ _ e => e.elim)).trans F4 (fun i _ e => .inr (by simp [mapBlock?, e]))
      by_cases hs0 : SZ = 0
      · have hs1 : ((SZ : Int) == 0) = true := by rw [hs0]; rfl
        have HS0 : Hid (SZ = 0) := hs0
        clear hs0
        go_wp2_with fail
        go_end0
        have F5 : Foot (fun k => k = rb) w4 (w4.setCell ⟨rb, 1, none⟩ (.map none)) := Foot.setCell _ ⟨rb, 1, none⟩ _
        refine ⟨rfl, .map none, HH4.out.set1 _, words_kept HW4.out F5 (fun k hk e => HH4.out.ne_words HW4.out hk e.symm), .inl ⟨rfl, fun r => ?_, HS0.out⟩, fun k hk => by simp [mapBlock?] at hk, FF.trans F5 (fun i _ e => .inl e)⟩
        by_cases hr32 : r < 4294967296
        · have := HM4.out.empty HS0.out r hr32
          simpa using this
        · have h1 := HFZ.out r (by omega)
          have h2 : r ≠ row := by omega
          simp [upd, h2, h1]
      · have hs1 : ((SZ : Int) == 0) = false := by rw [beq_eq_false_iff_ne]; omega
        have HS0 : Hid (SZ ≠ 0) := hs0
        clear hs0
        go_wp2_with fail
        go_end0
        exact ⟨rfl, .map (some b), HH4.out, HW4.out, .inr ⟨b, rfl, HM4.out⟩, fun k hk => hk, FF⟩


  · obtain ⟨n, hn⟩ : ∃ n, ss[j].words.length = n := ⟨_, rfl⟩
    obtain ⟨I, hI⟩ : ∃ I, hix ss j = I := ⟨_, rfl⟩
    obtain ⟨first, hfi⟩ : ∃ first, ss[j].first = first := ⟨_, rfl⟩
    rw [hfi] at hnb
    have HNB : Hid _ := hnb
    have HN : Hid _ := hone
    clear hnb hone
    have HJ : Hid (hix ss j + (ss[j].words.length + 1) ≤ (flat ss).length) := hix_le ss j hj
    obtain ⟨_, hpe⟩ := hR.lg (flat_ne_nil (i := 0) (by have := HJ.out; omega))
    have hf32 : first < 4294967296 := by rw [← hfi]; exact (hG.at j hj).first
    have hn2 : (n : Int) ≤ 100000 := by have := HJ.out; omega
    go_enter Try.func22, Try.ntmps22
    go_wp2_with fail
    refine (runOf_any rb g cap m _ ss hG (by omega) w hR).mono ?_
    rintro e w1 ⟨⟨r, hr1, rfl⟩, hB1⟩
    have hrm : r = (I : Int) := by
      rcases hr1 with ⟨_, h⟩ | ⟨i, h, h0, h1⟩
      · exact absurd hmj (h j hj)
      · obtain rfl := HN.out i h h1
        rw [h0, hI]
    subst hrm
    clear hr1
    have F1 : Foot (fun _ => False) w w1 := Foot.of_below hB1
    have hR1 := hR.below hB1
    have hrun := run_seg hR1 hG j hj
    rw [hI, hmj, hn, hfi] at hrun
    have hI0 : ¬ ((I : Int) < 0) := by omega
    go_wp2_with fail
    refine hrun.mono ?_
    rintro e w1' ⟨rfl, nd, rfl⟩
    have F1' : Foot (fun _ => False) w (w1.drewN nd) := F1.trans (Foot.drewN _ _ _) (fun _ _ e => e)
    clear hrun hR1 hB1 F1
    generalize w1.drewN nd = w1 at F1' ⊢
    have HW1 : Hid (Words w1 sv (flat ss)) := words_kept HW.out F1' (fun _ _ => id)
    have hwd : ∀ i, i < n → w1.cell? ⟨g, I + 1 + i, none⟩ = some (.int .u64 (gw ss[j].words i : Nat)) := by
      intro i hi
      have hw1 := HW1.out
      rw [hsv, hpe] at hw1
      have h1 := (flat_word hw1 (I + 1 + i) (by have := HJ.out; omega)).1
      rw [h1, ← hI, gw_word ss j i hj (by omega)]
    have hir := inRun_any row first _ g (I + 1) (cap - (I + 1)) ss[j].words w1 (by have := HJ.out; omega) hr hf32 rfl (fun i hi => (hG.at j hj).word _ (gw_in hi)) (fun i hi => hwd i (by omega))
    rw [hn, HNB.out] at hir
    clear hwd
    go_wp2_with fail
    refine hir.mono ?_
    rintro e w2 ⟨rfl, hw2⟩
    obtain rfl := hw2.symm
    clear hir
    go_wp2_with fail
    clear hfi hI hn hI0 hn2 hf32 HN HNB HJ hmj
    rcases HLIST.out with hnl | ⟨j0, hj0, hm0, hone0, hin⟩
    · have hR1 : Reads w1.heap.size w1 rb p g cap ss := (reads_kept F1' hR)
      refine (runOf_any rb g cap 0 p ss hG (by omega) w1 hR1).mono ?_
      rintro e w3 ⟨⟨r, hr1, rfl⟩, hB2⟩
      have hrm : r = -1 := by
        rcases hr1 with ⟨h, _⟩ | ⟨i, h, _, h0⟩
        · exact h
        · exact absurd h0 (hnl i h)
      subst hrm
      clear hr1 hnl
      have F2' : Foot (fun _ => False) w w3 := F1'.trans (Foot.of_below hB2) (fun _ _ e => e)
      clear hB2 hR1
      have HH3 : Hid (RlAt w3 rb sv (.map (some b))) := HH.out.kept F2' id
      have HW3 : Hid (Words w3 sv (flat ss)) := words_kept HW.out F2' (fun _ _ => id)
      have HM3 : Hid (MapF 50 53 .u32 w3 b sn f (fun r => decide (f r ≠ 0)) sz) := HM.out.kept F2' id
      have c3 := HH3.out.c1
      have hlook := HM3.out.look u50 u53 (zero53 _) row hr
      rw [HFR.out] at hlook
      obtain ⟨w4, hdel, hM4, F4⟩ : ∃ w', (∀ ty, (Builtin.delete_ #[50, 24] ty #[.map (some b), .int .u32 (row : Int)]).run Try.prog w3 = .ok (.tuple #[]) w') ∧ MapF 50 53 .u32 w' b sn (upd f row 0) (upd (fun r => decide (f r ≠ 0)) row false) (sz - if decide (f row ≠ 0) then 1 else 0) ∧ Foot (fun k => k = b) w3 w' := del_all HM3.out row hr
      have e1 : (sz - if decide (f row ≠ 0) then 1 else 0) = sz - 1 := by rw [HFR.out]; simp [HX0.out]
      have e2 : (upd (fun r => decide (f r ≠ 0)) row false) = fun r => decide (upd f row 0 r ≠ 0) := by
        funext i
        by_cases hi : i = row
        · simp [upd, hi]
        · simp [upd, hi]
      rw [e1, e2] at hM4
      clear e1 e2
      rw [← HSZ.out] at hM4
      have hlen := fun ty => hM4.len u50 ty
      have HM4 : Hid (MapF 50 53 .u32 w4 b sn (upd f row 0) (fun r => decide (upd f row 0 r ≠ 0)) SZ) := hM4
      clear hM4
      have HH4 : Hid (RlAt w4 rb sv (.map (some b))) := HH3.out.kept F4 (HH3.out.ne_map HM3.out)
      have HW4 : Hid (Words w4 sv (flat ss)) := by
        refine words_kept HW3.out F4 (fun k hk e => ?_)
        subst e
        rcases HW3.out with ⟨rfl, _⟩ | ⟨g', zs, rfl, hR', _⟩
        · simp [Value.ownBlock] at hk
        · simp [Value.ownBlock] at hk
          subst hk
          exact hR'.ne_map HM3.out rfl
      have c4 := HH4.out.c1
      have f4 := HH4.out.fz 1
      have FF : Foot (fun k => k = rb ∨ mapBlock? (.map (some b)) = some k) w w4 := (F2'.mono (fun _ _ e => e.elim)).trans F4 (fun i _ e => .inr (by simp [mapBlock?, e]))
      by_cases hs0 : SZ = 0
      · have hs1 : ((SZ : Int) == 0) = true := by rw [hs0]; rfl
        have HS0 : Hid (SZ = 0) := hs0
        clear hs0
        go_wp2_with fail
        go_end0
        have F5 : Foot (fun k => k = rb) w4 (w4.setCell ⟨rb, 1, none⟩ (.map none)) := Foot.setCell _ ⟨rb, 1, none⟩ _
        refine ⟨rfl, .map none, HH4.out.set1 _, words_kept HW4.out F5 (fun k hk e => HH4.out.ne_words HW4.out hk e.symm), .inl ⟨rfl, fun r => ?_, HS0.out⟩, fun k hk => by simp [mapBlock?] at hk, FF.trans F5 (fun i _ e => .inl e)⟩
        by_cases hr32 : r < 4294967296
        · have := HM4.out.empty HS0.out r hr32
          simpa using this
        · have h1 := HFZ.out r (by omega)
          have h2 : r ≠ row := by omega
          simp [upd, h2, h1]
      · have hs1 : ((SZ : Int) == 0) = false := by rw [beq_eq_false_iff_ne]; omega
        have HS0 : Hid (SZ ≠ 0) := hs0
        clear hs0
        go_wp2_with fail
        go_end0
        exact ⟨rfl, .map (some b), HH4.out, HW4.out, .inr ⟨b, rfl, HM4.out⟩, fun k hk => hk, FF⟩

    · obtain ⟨J0, hJ0⟩ : ∃ J0, hix ss j0 = J0 := ⟨_, rfl⟩
      obtain ⟨n0, hn0⟩ : ∃ n0, ss[j0].words.length = n0 := ⟨_, rfl⟩
      have HONE : Hid _ := hone0
      clear hone0
      obtain ⟨LW, HLW⟩ : ∃ LW, Hid (LW = lw row m) := ⟨_, rfl⟩
      have HIN : Hid (LW ∉ ss[j0].words) := by rw [HLW.out]; exact hin
      clear hin
      have HJJ : Hid (J0 + (n0 + 1) ≤ L) := by have h := hix_le ss j0 hj0; rw [hJ0, hn0, hL] at h; exact h
      have HPE : Hid (p = some ⟨g, 0, none⟩) := (hR.lg (flat_ne_nil (i := 0) (by have := HJJ.out; omega))).2
      have hR1 : Reads w1.heap.size w1 rb p g cap ss := (reads_kept F1' hR)
      have HH1 : Hid (RlAt w1 rb sv (.map (some b))) := HH.out.kept F1' id
      have HW1 : Hid (Words w1 sv (flat ss)) := words_kept HW.out F1' (fun _ _ => id)
      refine (runOf_any rb g cap 0 p ss hG (by omega) w1 hR1).mono ?_
      rintro e w2 ⟨⟨r, hr1, rfl⟩, hB2⟩
      have hrm : r = (J0 : Int) := by
        rcases hr1 with ⟨_, h⟩ | ⟨i, h, h0, h1⟩
        · exact absurd hm0 (h j0 hj0)
        · obtain rfl := HONE.out i h h1
          rw [h0, hJ0]
      subst hrm
      clear hr1
      have F2 : Foot (fun _ => False) w1 w2 := Foot.of_below hB2
      have hR2 := hR1.below hB2
      have hrun := run_seg hR2 hG j0 hj0
      rw [hJ0, hm0, hn0] at hrun
      have hI0 : (0 : Int) ≤ (J0 : Int) := by omega
      clear hB2
      go_wp2_with fail
      refine hrun.mono ?_
      rintro e w2' ⟨rfl, nd2, rfl⟩
      have F2' : Foot (fun _ => False) w (w2.drewN nd2) := F1'.trans (F2.trans (Foot.drewN _ _ _) (fun _ _ e => e)) (fun _ _ e => e)
      clear hrun hR2 F2 F1' HH1 HW1 hR1
      generalize w2.drewN nd2 = w3 at F2' ⊢
      have HW3' : Hid (Words w3 (.slice (some ⟨g, 0, none⟩) L cap) (flat ss)) := by have h := words_kept HW.out F2' (fun _ _ => id); rw [hsv, HPE.out] at h; exact h
      have hwd : ∀ i, i < n0 → w3.cell? ⟨g, J0 + 1 + i, none⟩ = some (.int .u64 (gw ss[j0].words i : Nat)) := by
        intro i hi
        have h1 := (flat_word HW3'.out (J0 + 1 + i) (by have := HJJ.out; omega)).1
        rw [h1, ← hJ0, gw_word ss j0 i hj0 (by omega)]
      have HIX : Hid _ := index_any g (J0 + 1) n0 (cap - (J0 + 1)) LW ss[j0].words w3 hn0 (by have := HJJ.out; omega) hwd
      clear hwd
      have CLW : Hid (∀ w, Calls Try.prog 31 #[.int .u32 row, .int .u8 m] w fun e w' => e = .returned (.int .u64 (LW : Nat)) ∧ w' = w) := by rw [HLW.out]; exact listWord_any row m hr (by omega)
      go_wp2_with fail
      refine (CLW.out _).mono ?_
      rintro e w4 ⟨rfl, hw4⟩
      obtain rfl := hw4.symm
      go_wp2_with fail
      refine Calls.mono HIX.out ?_
      rintro e w4 ⟨⟨r, hr1, rfl⟩, hw4⟩
      obtain rfl := hw4.symm
      have hrm : r = -1 := by
        rcases hr1 with ⟨h, _⟩ | ⟨kk, hkk, _, hgk⟩
        · exact h
        · exact absurd (hgk ▸ gw_in (by omega)) HIN.out
      subst hrm
      clear hr1
      have HH3 : Hid (RlAt w3 rb sv (.map (some b))) := HH.out.kept F2' id
      have HW3 : Hid (Words w3 sv (flat ss)) := words_kept HW.out F2' (fun _ _ => id)
      have HM3 : Hid (MapF 50 53 .u32 w3 b sn f (fun r => decide (f r ≠ 0)) sz) := HM.out.kept F2' id
      have c3 := HH3.out.c1
      have hlook := HM3.out.look u50 u53 (zero53 _) row hr
      rw [HFR.out] at hlook
      obtain ⟨w4, hdel, hM4, F4⟩ : ∃ w', (∀ ty, (Builtin.delete_ #[50, 24] ty #[.map (some b), .int .u32 (row : Int)]).run Try.prog w3 = .ok (.tuple #[]) w') ∧ MapF 50 53 .u32 w' b sn (upd f row 0) (upd (fun r => decide (f r ≠ 0)) row false) (sz - if decide (f row ≠ 0) then 1 else 0) ∧ Foot (fun k => k = b) w3 w' := del_all HM3.out row hr
      have e1 : (sz - if decide (f row ≠ 0) then 1 else 0) = sz - 1 := by rw [HFR.out]; simp [HX0.out]
      have e2 : (upd (fun r => decide (f r ≠ 0)) row false) = fun r => decide (upd f row 0 r ≠ 0) := by
        funext i
        by_cases hi : i = row
        · simp [upd, hi]
        · simp [upd, hi]
      rw [e1, e2] at hM4
      clear e1 e2
      rw [← HSZ.out] at hM4
      have hlen := fun ty => hM4.len u50 ty
      have HM4 : Hid (MapF 50 53 .u32 w4 b sn (upd f row 0) (fun r => decide (upd f row 0 r ≠ 0)) SZ) := hM4
      clear hM4
      have HH4 : Hid (RlAt w4 rb sv (.map (some b))) := HH3.out.kept F4 (HH3.out.ne_map HM3.out)
      have HW4 : Hid (Words w4 sv (flat ss)) := by
        refine words_kept HW3.out F4 (fun k hk e => ?_)
        subst e
        rcases HW3.out with ⟨rfl, _⟩ | ⟨g', zs, rfl, hR', _⟩
        · simp [Value.ownBlock] at hk
        · simp [Value.ownBlock] at hk
          subst hk
          exact hR'.ne_map HM3.out rfl
      have c4 := HH4.out.c1
      have f4 := HH4.out.fz 1
      have FF : Foot (fun k => k = rb ∨ mapBlock? (.map (some b)) = some k) w w4 := (F2'.mono (fun _ _ e => e.elim)).trans F4 (fun i _ e => .inr (by simp [mapBlock?, e]))
      by_cases hs0 : SZ = 0
      · have hs1 : ((SZ : Int) == 0) = true := by rw [hs0]; rfl
        have HS0 : Hid (SZ = 0) := hs0
        clear hs0
        go_wp2_with fail
        go_end0
        have F5 : Foot (fun k => k = rb) w4 (w4.setCell ⟨rb, 1, none⟩ (.map none)) := Foot.setCell _ ⟨rb, 1, none⟩ _
        refine ⟨rfl, .map none, HH4.out.set1 _, words_kept HW4.out F5 (fun k hk e => HH4.out.ne_words HW4.out hk e.symm), .inl ⟨rfl, fun r => ?_, HS0.out⟩, fun k hk => by simp [mapBlock?] at hk, FF.trans F5 (fun i _ e => .inl e)⟩
        by_cases hr32 : r < 4294967296
        · have := HM4.out.empty HS0.out r hr32
          simpa using this
        · have h1 := HFZ.out r (by omega)
          have h2 : r ≠ row := by omega
          simp [upd, h2, h1]
      · have hs1 : ((SZ : Int) == 0) = false := by rw [beq_eq_false_iff_ne]; omega
        have HS0 : Hid (SZ ≠ 0) := hs0
        clear hs0
        go_wp2_with fail
        go_end0
        exact ⟨rfl, .map (some b), HH4.out, HW4.out, .inr ⟨b, rfl, HM4.out⟩, fun k hk => hk, FF⟩

end Go.Proofs.Qxb6605852a
