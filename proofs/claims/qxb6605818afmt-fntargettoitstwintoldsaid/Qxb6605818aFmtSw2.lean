import Derived.Test.Qxb6605818aFmtSw1b
import Derived.Test.Qxb6605818aFmtZz0
import Derived.Test.Qxb6605818aFmtTgt2
import Derived.Test.Qxb6605818aFmtDef2
import Derived.Deep.DeepCutAuto
import Derived.Deep.CutRange
import Derived.Deep.RegionLaw
import Derived.Deep.RegionHeld3
namespace Go.Proofs.Qxb6605818aFmt
open Go.RowKit Go.Maps Go.Stop
set_option linter.unusedVariables false

theorem Foot.onto {S : Nat → Prop} {a b c : World} (h : Foot S a b) (k : Below a.heap.size b c) : Foot S a c :=
  ⟨k.os.trans h.os, k.tape.trans h.tape, k.output.trans h.output, Nat.le_trans h.size k.size, fun i hi hn => (k.block i hi).trans (h.block i hi hn)⟩


set_option maxRecDepth 100000 in
set_option maxHeartbeats 40000000 in
theorem switching_any (F0 : Interp) (d S O P m0 p0 m1 p1 n lm la lp : Nat) (F G : Nat → Value) (s M f g : Nat → ByteArray) (pl ql : Nat → Nat) (zp zo : Nat → Nat → Int) (w : World) (hF0 : F0.answers w.tape) (hn : n ≤ 4096) (hlm : lm ≤ 4096) (hla : la ≤ 4096) (hlp : lp ≤ 4096)
    (hD : DefAt w d S O P m0 p0 m1 p1 n lm la lp F G s M f g pl ql zp zo) (h1c : ∀ j, j < n → ∃ y z a b l c l' c', F (j * 5 + 1) = .string y ∧ F (j * 5 + 2) = .int .i64 z ∧ F (j * 5 + 3) = .slice a l c ∧ F (j * 5 + 4) = .slice b l' c') (hs : ∀ j, j < n → (s j).size ≤ 1048576) (hMs : ∀ i, i < lm → ∃ j, j < n ∧ s j = M i) (hfg : ∀ k, k < la → inStr M (f k) lm = true ∧ inStr M (g k) lm = true) (hpl : ∀ q, q < lp → pl q ≤ 2000000) (hql : ∀ q, q < lp → ql q ≤ 2000000) :
    Calls Tryf.prog 23 #[.pointer (some ⟨d, 0, none⟩), .int .i64 0] w fun e w' => ∃ sb ib ia ic ga nn avs, e = .returned (.pointer (some ⟨sb, 0, none⟩)) ∧ SwR w' sb d ib P ia ic (idl M lm s n).length ga lp nn (fun i => (idl M lm s n).getD i ⟨#[]⟩) (ixf M lm s n) (hsf M lm s n) avs (fun i => bs (ixf M lm s n) f g i la) G s pl ql zp zo ∧ Below w.heap.size w w' := by
  obtain ⟨w1, hw1⟩ : ∃ w1, w.alloc (.cells #[.string litFrom, .slice (some ⟨m0, 0, none⟩) lm lm, .slice (some ⟨p0, 0, none⟩) la la] 43) = w1 := ⟨_, rfl⟩
  have hB1 : Below w.heap.size w w1 := by rw [← hw1]; exact (Below.refl _ _).alloc (Nat.le_refl _) _
  have hblk : w1.heap[w.heap.size]? = some (.cells #[.string litFrom, .slice (some ⟨m0, 0, none⟩) lm lm, .slice (some ⟨p0, 0, none⟩) la la] 43 (0, 0)) := by rw [← hw1]; exact heap_alloc_new _ _
  have hsz1 : w1.heap.size = w.heap.size + 1 := by rw [← hw1]; simp
  have a0 : w.cell? ⟨d, 2, none⟩ = some (.slice (some ⟨O, 0, none⟩) 2 2) := by simp [World.cell?, hD.blk]
  have a1 : w.cell? ⟨O, 0, none⟩ = some (.string litFrom) ∧ w.cell? ⟨O, 1, none⟩ = some (.slice (some ⟨m0, 0, none⟩) lm lm) ∧ w.cell? ⟨O, 2, none⟩ = some (.slice (some ⟨p0, 0, none⟩) la la) := by simp [World.cell?, hD.ords]
  obtain ⟨a1, a2, a3⟩ := a1
  have k0 : w1.cell? ⟨w.heap.size, 0, none⟩ = some (.string litFrom) ∧ w1.cell? ⟨w.heap.size, 1, none⟩ = some (.slice (some ⟨m0, 0, none⟩) lm lm) ∧ w1.cell? ⟨w.heap.size, 2, none⟩ = some (.slice (some ⟨p0, 0, none⟩) la la) := by simp [World.cell?, hblk]
  obtain ⟨k0, k1, k2⟩ := k0
  have HB1 : Hid (Below w.heap.size w w1) := hB1
  have HL : Hid (∀ X, Below w1.heap.size w1 X → DefAt X d S O P m0 p0 m1 p1 n lm la lp F G s M f g pl ql zp zo ∧ X.cell? ⟨w.heap.size, 0, none⟩ = some (.string litFrom) ∧ X.cell? ⟨w.heap.size, 1, none⟩ = some (.slice (some ⟨m0, 0, none⟩) lm lm) ∧ X.cell? ⟨w.heap.size, 2, none⟩ = some (.slice (some ⟨p0, 0, none⟩) la la)) := fun X hX => ⟨(hD.below hB1).below hX, (hX.cell (cell_lt k0)).trans k0, (hX.cell (cell_lt k1)).trans k1, (hX.cell (cell_lt k2)).trans k2⟩
  have HHAS : Hid (∀ X x, Below w1.heap.size w1 X → Calls Tryf.prog 26 #[ordV litFrom m0 p0 lm la, .string x] X fun e w' => e = .returned (.bool (inStr M x lm)) ∧ Below X.heap.size X w') := fun X x hX => has_any litFrom x m0 p0 lm la M X hlm (HL.out X hX).1.mem0
  have H1C : Hid (∀ j, j < n → ∃ y z a b l c l' c', F (j * 5 + 1) = .string y ∧ F (j * 5 + 2) = .int .i64 z ∧ F (j * 5 + 3) = .slice a l c ∧ F (j * 5 + 4) = .slice b l' c') := h1c
  have HS : Hid (∀ j, j < n → strKey (s j)) := fun j hj => by have := hs j hj; unfold strKey maxLen; omega
  have hlmi : (lm : Int) ≤ 4096 := by omega
  have hni : (n : Int) ≤ 4096 := by omega
  have hmm := fun (k : Nat) w => makeMapN 73 9 3 k Go.Proofs.Qxb6605818aFmt.u73 w
  clear hD h1c hblk
  unfold ordV at HHAS
  go_enter Tryf.func23, Tryf.ntmps23
  go_wp2_with fail
  go_region
  obtain ⟨ib, hib⟩ : ∃ ib, w.heap.size + 1 = ib := ⟨_, rfl⟩
  obtain ⟨sb, hsb⟩ : ∃ sb, ib + 1 = sb := ⟨_, rfl⟩
  rw [hib, hsb]
  obtain ⟨w2, hw2⟩ : ∃ w2, ((w1.alloc (.map #[] 0)).alloc (.cells #[.pointer (some ⟨d, 0, none⟩), .string litFrom, .slice (some ⟨m0, 0, none⟩) lm lm, .slice (some ⟨p0, 0, none⟩) la la, .slice none 0 0, .map (some ib), .slice none 0 0, .slice none 0 0, .slice none 0 0, .slice none 0 0, .chan none] 77)).drew = w2 := ⟨_, rfl⟩
  rw [hw2]
  have hsA : StA w1.heap.size w2 sb ib (.pointer (some ⟨d, 0, none⟩)) (.string litFrom) (.slice (some ⟨m0, 0, none⟩) lm lm) (.slice (some ⟨p0, 0, none⟩) la la) (.chan none) (.slice none (idl M lm s 0).length 0) (idl M lm s 0) 0 (ixf M lm s 0) (hsf M lm s 0) := by
    have hz : w1.heap.size = ib := by omega
    have hz2 : (w1.alloc (.map #[] 0)).heap.size = sb := by simp; omega
    refine ⟨by omega, by omega, ?_, Own.nil _ _ _, ?_⟩
    · rw [← hw2]
      exact at_drew (at_new _ _ hz2)
    · have h1 := MapK.made (kv := Value.string) (dom := strKey) (KT := 9) (z := .int .i64 0) w1 strKey_ok
      rw [hz] at h1
      rw [← hw2]
      exact h1.kept (S := fun _ => False) (Foot.alloc _ _ _).drew id
  have hB2 : Below w1.heap.size w1 w2 := by rw [← hw2]; exact (((Below.refl _ _).alloc (Nat.le_refl _) _).alloc (by simp) _).drew
  have HA : Hid (StA w1.heap.size w2 sb ib (.pointer (some ⟨d, 0, none⟩)) (.string litFrom) (.slice (some ⟨m0, 0, none⟩) lm lm) (.slice (some ⟨p0, 0, none⟩) la la) (.chan none) (.slice none (idl M lm s 0).length 0) (idl M lm s 0) 0 (ixf M lm s 0) (hsf M lm s 0)) := hsA
  have HB2 : Hid (Below w1.heap.size w1 w2) := hB2
  have d1 : w2.cell? ⟨d, 1, none⟩ = some (.slice (some ⟨S, 0, none⟩) n n) := by simp [World.cell?, (HL.out w2 hB2).1.blk]
  clear hsA hB2 hw2
  go_wp2
  go_loopw [40] (fun i wr => ∃ k : Nat, k ≤ n ∧ i = .int .i64 k ∧ ∃ ia ic nn, Hid (StA w1.heap.size wr sb ib (.pointer (some ⟨d, 0, none⟩)) (.string litFrom) (.slice (some ⟨m0, 0, none⟩) lm lm) (.slice (some ⟨p0, 0, none⟩) la la) (.chan none) (.slice ia (idl M lm s k).length ic) (idl M lm s k) nn (ixf M lm s k) (hsf M lm s k)) ∧ Hid (nn ≤ k) ∧ Hid (Below w1.heap.size w1 wr)) (fun i _ => n - (intOf i).toNat)
  case atStart => exact ⟨0, Nat.zero_le _, rfl, none, 0, 0, HA, Nat.le_refl _, HB2⟩
  case round =>
    clear HA HB2 d1
    obtain ⟨k, hk, rfl, ia, ic, nn, HA, HN, HB⟩ := hrel
    by_cases hlt : k < n
    · have hlti : (k : Int) < (n : Int) := by omega
      obtain ⟨hDr, _, _, _⟩ := HL.out wr HB.out
      have q0 := hDr.subs.cell (i := k * 5) (by omega)
      have q1 := hDr.subs.cell (i := k * 5 + 1) (by omega)
      have q2 := hDr.subs.cell (i := k * 5 + 2) (by omega)
      have q3 := hDr.subs.cell (i := k * 5 + 3) (by omega)
      have q4 := hDr.subs.cell (i := k * 5 + 4) (by omega)
      rw [hDr.ids k hlt] at q0
      obtain ⟨v1, v2, v3a, v4a, v3l, v3c, v4l, v4c, hv1, hv2, hv3, hv4⟩ := H1C.out k hlt
      rw [hv1] at q1
      rw [hv2] at q2
      rw [hv3] at q3
      rw [hv4] at q4
      obtain ⟨x, hx⟩ : ∃ x, s k = x := ⟨_, rfl⟩
      rw [hx] at q0
      have HX : Hid (s k = x) := hx
      obtain ⟨w2, hw2⟩ : ∃ w2, wr.alloc (.cells #[.string x, .string v1, .int .i64 v2, .slice v3a v3l v3c, .slice v4a v4l v4c] 61) = w2 := ⟨_, rfl⟩
      have hb2 : Below wr.heap.size wr w2 := by rw [← hw2]; exact (Below.refl _ _).alloc (Nat.le_refl _) _
      have hblk : w2.heap[wr.heap.size]? = some (.cells #[.string x, .string v1, .int .i64 v2, .slice v3a v3l v3c, .slice v4a v4l v4c] 61 (0, 0)) := by rw [← hw2]; exact heap_alloc_new _ _
      obtain ⟨pb, hpb⟩ : ∃ pb, wr.heap.size = pb := ⟨_, rfl⟩
      rw [hpb] at hblk
      have HBK : Hid (w2.heap[pb]? = some (.cells #[.string x, .string v1, .int .i64 v2, .slice v3a v3l v3c, .slice v4a v4l v4c] 61 (0, 0))) := hblk
      have HB2 : Hid (Below w1.heap.size w1 w2) := HB.out.trans (hb2.mono HB.out.size)
      have HA2 : Hid (StA w1.heap.size w2 sb ib (.pointer (some ⟨d, 0, none⟩)) (.string litFrom) (.slice (some ⟨m0, 0, none⟩) lm lm) (.slice (some ⟨p0, 0, none⟩) la la) (.chan none) (.slice ia (idl M lm s k).length ic) (idl M lm s k) nn (ixf M lm s k) (hsf M lm s k)) := HA.out.new hb2
      obtain ⟨_, n0, n1, n2⟩ := HL.out w2 HB2.out
      have p0' : w2.cell? ⟨pb, 0, none⟩ = some (.string x) := by simp [World.cell?, hblk]
      clear hv1 hv2 hv3 hv4 hDr hx hblk hb2
      go_wp2_with fail
      refine Calls.mono (HHAS.out w2 _ HB2.out) ?_
      rintro e w3 ⟨rfl, hb3⟩
      have HB3 : Hid (Below w1.heap.size w1 w3) := HB2.out.trans (hb3.mono HB2.out.size)
      have HA3 : Hid (StA w1.heap.size w3 sb ib (.pointer (some ⟨d, 0, none⟩)) (.string litFrom) (.slice (some ⟨m0, 0, none⟩) lm lm) (.slice (some ⟨p0, 0, none⟩) la la) (.chan none) (.slice ia (idl M lm s k).length ic) (idl M lm s k) nn (ixf M lm s k) (hsf M lm s k)) := HA2.out.new hb3
      have HB23 : Hid (Below w2.heap.size w2 w3) := hb3
      clear q0 q1 q2 q3 q4  n0 n1 n2 p0' hb3
      cases hin : inStr M x lm with
      | false =>
        have hin' : ¬ inStr M (s k) lm = true := by rw [HX.out, hin]; decide
        have HA4 : Hid (StA w1.heap.size w3 sb ib (.pointer (some ⟨d, 0, none⟩)) (.string litFrom) (.slice (some ⟨m0, 0, none⟩) lm lm) (.slice (some ⟨p0, 0, none⟩) la la) (.chan none) (.slice ia (idl M lm s (k + 1)).length ic) (idl M lm s (k + 1)) nn (ixf M lm s (k + 1)) (hsf M lm s (k + 1))) := by
          have h := HA3.out
          simp only [idl, ixf, hsf, if_neg hin', List.append_nil]
          exact h
        clear hin'
        go_wp2
        refine ⟨⟨k + 1, by omega, by go_num, _, _, nn, HA4, Nat.le_succ_of_le HN.out, HB3⟩, ?_⟩
        simp [intOf]; omega
      | true =>
        have hin' : inStr M (s k) lm = true := by rw [HX.out, hin]
        obtain ⟨Lk, hLk⟩ : ∃ Lk, (idl M lm s k).length = Lk := ⟨_, rfl⟩
        have hA3 := HA3.out.new (Below.refl w3.heap.size w3).drew
        have hL := idl_length (M := M) (lm := lm) (s := s) k
        obtain ⟨w4, hup, e2, e3⟩ := hA3.put x (by rw [← HX.out]; exact HS.out k hlt) (by have := HN.out; omega) Lk
        have hB3d : Below w1.heap.size w1 w3.drew := HB3.out.drew
        have hB4 : Below w1.heap.size w1 w4 := hB3d.trans (e3.below hB3d.size (fun k e => by rw [e]; exact hA3.li))
        have hpbk : w3.heap[pb]? = some (.cells #[.string x, .string v1, .int .i64 v2, .slice v3a v3l v3c, .slice v4a v4l v4c] 61 (0, 0)) := (HB23.out.block pb (block_lt HBK.out)).trans HBK.out
        have hpb3 : w3.drew.heap[pb]? = some (.cells #[.string x, .string v1, .int .i64 v2, .slice v3a v3l v3c, .slice v4a v4l v4c] 61 (0, 0)) := hpbk
        have hpne : pb ≠ ib := by
          rintro rfl
          obtain ⟨es, c, h2⟩ := hA3.mp.is_map
          rw [hpb3] at h2
          simp at h2
        have hpb4 : w4.heap[pb]? = some (.cells #[.string x, .string v1, .int .i64 v2, .slice v3a v3l v3c, .slice v4a v4l v4c] 61 (0, 0)) := (e3.block pb (block_lt hpb3) hpne).trans hpb3
        have L7 : ∀ X, X.heap[pb]? = some (.cells #[.string x, .string v1, .int .i64 v2, .slice v3a v3l v3c, .slice v4a v4l v4c] 61 (0, 0)) → ∀ nn ix hs, StA w1.heap.size X sb ib (.pointer (some ⟨d, 0, none⟩)) (.string litFrom) (.slice (some ⟨m0, 0, none⟩) lm lm) (.slice (some ⟨p0, 0, none⟩) la la) (.chan none) (.slice ia (idl M lm s k).length ic) (idl M lm s k) nn ix hs → X.cell? ⟨sb, 5, none⟩ = some (.map (some ib)) ∧ X.cell? ⟨pb, 0, none⟩ = some (.string x) ∧ X.cell? ⟨sb, 4, none⟩ = some (.slice ia Lk ic) := fun X hX nn ix hs hA => by
          rw [hLk] at hA
          simp [World.cell?, hX, hA.blk]
        have s1 := L7 _ hpb3 _ _ _ hA3
        have s2 := L7 _ hpb4 _ _ _ e2
        have hA4 := e2.new (Below.refl w4.heap.size w4).drew
        have hB4d : Below w1.heap.size w1 w4.drew := hB4.drew
        have hpb4d : w4.drew.heap[pb]? = some (.cells #[.string x, .string v1, .int .i64 v2, .slice v3a v3l v3c, .slice v4a v4l v4c] 61 (0, 0)) := hpb4
        have s3 := L7 _ hpb4d _ _ _ hA4
        obtain ⟨iv', w5, g1, g2, g3, g4, g5, g6, g', c', hv'⟩ := hA4.push x (by omega) hB4d.size
        rw [hLk] at hv'
        subst hv'
        have hAl : Below w4.heap.size w4 (w4.alloc (.cells #[.string x] 9)).drew := ((Below.refl _ _).alloc (Nat.le_refl _) _).drew
        have s4 := L7 _ ((hAl.block pb (block_lt hpb4)).trans hpb4) _ _ _ (e2.new hAl)
        have hB6 : Below w1.heap.size w1 (w5.setCell ⟨sb, 4, none⟩ (.slice (some ⟨g', 0, none⟩) (Lk + 1) c')) := hB4d.trans g3
        have HA6 : Hid (StA w1.heap.size (w5.setCell ⟨sb, 4, none⟩ (.slice (some ⟨g', 0, none⟩) (Lk + 1) c')) sb ib (.pointer (some ⟨d, 0, none⟩)) (.string litFrom) (.slice (some ⟨m0, 0, none⟩) lm lm) (.slice (some ⟨p0, 0, none⟩) la la) (.chan none) (.slice (some ⟨g', 0, none⟩) (idl M lm s (k + 1)).length c') (idl M lm s (k + 1)) (nn + 1) (ixf M lm s (k + 1)) (hsf M lm s (k + 1))) := by
          simp only [idl, ixf, hsf, if_pos hin']
          rw [HX.out, hLk, List.length_append, hLk]
          exact g2
        have HB6 : Hid (Below w1.heap.size w1 (w5.setCell ⟨sb, 4, none⟩ (.slice (some ⟨g', 0, none⟩) (Lk + 1) c'))) := hB6
        have s2' := s2
        rw [hLk] at g1 g4
        have g1 : ∀ ty, (Builtin.append_ #[22, 22] ty #[.slice ia Lk ic, .slice (some ⟨w4.heap.size, 0, none⟩) 1 1]).run Tryf.prog (w4.alloc (.cells #[.string x] 9)).drew = .ok (.slice (some ⟨g', 0, none⟩) (Lk + 1) c') w5 := g1
        have hLki : (Lk : Int) ≤ 4096 := by omega
        clear hA3 e2 e3 hB3d hB4 hpbk hpb3 hpne hpb4 L7 hA4 hB4d hpb4d g2 g3 g6 hAl hB6 hin' hL hLk
        go_wp2_with fail
        go_region_held3 (fun X => X.cell? ⟨sb, 5, none⟩ = some (.map (some ib)) ∧ X.cell? ⟨pb, 0, none⟩ = some (.string x) ∧ X.cell? ⟨sb, 4, none⟩ = some (.slice ia Lk ic)) (first | exact s1 | exact s2) (fail)
        obtain ⟨_, s3b, s3c⟩ := s3
        obtain ⟨_, s4b, s4c⟩ := s4
        clear s1 s2 s2'
        go_wp2_with fail
        go_region_law (refine step_app rfl (.tmp 63) (.tmp 66) 22 rfl _ _ _ _ rfl rfl g1 ?_)
        all_goals
          go_wp2
          refine ⟨⟨k + 1, by omega, by go_num, _, _, nn + 1, HA6, Nat.succ_le_succ HN.out, HB6⟩, ?_⟩
          simp [intOf]; omega
    · obtain rfl : n = k := by omega
      obtain ⟨N, hN⟩ : ∃ N, (idl M lm s n).length = N := ⟨_, rfl⟩
      have hNn : N ≤ n := by rw [← hN]; exact idl_length n
      have HN0 : Hid ((idl M lm s n).length = N) := hN
      rw [hN] at HA
      obtain ⟨Wb, rfl⟩ : ∃ Wb, Wb = wr := ⟨_, rfl⟩
      have hNi : (N : Int) ≤ 4096 := by omega
      have hmI := fun w => makeII N (by omega) w
      have b4 : Wb.cell? ⟨sb, 4, none⟩ = some (.slice ia N ic) := by simp [World.cell?, HA.out.blk]
      have hal : ∀ (X : World), Foot (fun k => k = sb) Wb X → ∀ c6 c7, X.heap[sb]? = some (.cells #[.pointer (some ⟨d, 0, none⟩), .string litFrom, .slice (some ⟨m0, 0, none⟩) lm lm, .slice (some ⟨p0, 0, none⟩) la la, .slice ia N ic, .map (some ib), c6, c7, .slice none 0 0, .slice none 0 0, .chan none] 77 (0, 0)) → X.cell? ⟨sb, 6, none⟩ = some c6 ∧ X.frozen? ⟨sb, 6, none⟩ = false ∧ X.cell? ⟨sb, 7, none⟩ = some c7 ∧ X.frozen? ⟨sb, 7, none⟩ = false := fun X _ c6 c7 h => by simp [World.cell?, World.frozen?, h]
      have q1 := hal Wb (Foot.refl _ _) _ _ HA.out.blk
      have q2 := fun v => hal (Wb.setCell ⟨sb, 6, none⟩ v) ((Foot.setCell Wb ⟨sb, 6, none⟩ v).mono (fun k _ e => e)) v (.slice none 0 0) (by simp [World.setCell, Array.getElem?_modify, HA.out.blk])
      obtain ⟨q1a, q1b, q1c, q1d⟩ := q1
      have q2a := fun v => (q2 v).2.2.1
      have q2b := fun v => (q2 v).2.2.2
      have hlt1 : sb < Wb.heap.size := block_lt HA.out.blk
      have hlt2 : sb ≠ Wb.heap.size := by omega
      have hlt3 : sb ≠ Wb.heap.size + 1 := by omega
      clear q2 hal hN
      go_upto_region 11 with fail
      go_cut [] (fun wx => ∃ G1 G2, Hid (wx.heap[sb]? = some (.cells #[.pointer (some ⟨d, 0, none⟩), .string litFrom, .slice (some ⟨m0, 0, none⟩) lm lm, .slice (some ⟨p0, 0, none⟩) la la, .slice ia N ic, .map (some ib), .slice (some ⟨G1, 0, none⟩) N N, .slice (some ⟨G2, 0, none⟩) N N, .slice none 0 0, .slice none 0 0, .chan none] 77 (0, 0))) ∧ Hid (BA Wb.heap.size wx G1 G2 N (fun _ => .slice none 0 0) (fun _ => []) (fun _ => .slice none 0 0) (fun _ => [])) ∧ Hid (Foot (fun k => k = sb) Wb wx))
      case first =>
        go_region
        all_goals (go_wp2_with fail; go_meet)
        all_goals
          case rel =>
            exact sw_made HA.out.blk (by first | exact .inl ⟨rfl, rfl⟩ | exact .inr ⟨rfl, rfl⟩)
      case rest =>
        obtain ⟨G1, G2, HK, HBA, HF⟩ := hcut
        have HSt : Hid (∀ X, Foot (fun k => k = sb) Wb X → Below w1.heap.size w1 X ∧ Own w1.heap.size 9 X (.slice ia N ic) ((idl M lm s n).map Value.string) ∧ MapK Value.string strKey 9 (.int .i64 0) X ib nn (fun x => .int .i64 ((ixf M lm s n) x : Nat)) (hsf M lm s n)) := fun X hX => ⟨HB.out.trans (hX.below HB.out.size (fun k e => by rw [e]; exact HA.out.lo)), HA.out.own.kept hX (fun b hb e => by
          obtain ⟨cur, hc⟩ := HA.out.own.heap hb
          exact cells_ne hc HA.out.blk (by decide) e), HA.out.mp.kept hX (fun e => HA.out.ne e.symm)⟩
        have HFG : Hid (∀ k, k < la → strKey (f k) ∧ strKey (g k) ∧ (hsf M lm s n) (f k) = true ∧ (hsf M lm s n) (g k) = true ∧ (ixf M lm s n) (f k) < N ∧ (ixf M lm s n) (g k) < N) := by
          have key : ∀ x, inStr M x lm = true → strKey x ∧ (hsf M lm s n) x = true ∧ (ixf M lm s n) x < N := fun x hx => by
            obtain ⟨i, hi, rfl⟩ := (inStr_iff _ _ _).1 hx
            obtain ⟨j, hj, hjs⟩ := hMs i hi
            rw [← hjs] at hx ⊢
            have h2 := hsf_of (M := M) (lm := lm) (s := s) n hj hx
            exact ⟨HS.out j hj, h2, by have := ixf_lt n (s j) h2; rw [HN0.out] at this; exact this⟩
          exact fun k hk => ⟨(key _ (hfg k hk).1).1, (key _ (hfg k hk).2).1, (key _ (hfg k hk).1).2.1, (key _ (hfg k hk).2).2.1, (key _ (hfg k hk).1).2.2, (key _ (hfg k hk).2).2.2⟩
        have HLB : Hid (sb < Wb.heap.size) := hlt1
        have hlai : (la : Int) ≤ 4096 := by omega
        have n2c := (HL.out wc (HSt.out wc HF.out).1).2.2.2
        clear HA HB b4 q1a q1b q1c q1d q2a q2b hlt1 hlt2 hlt3 hNn
        go_wp2
        go_loopw [89] (fun i wr => ∃ k : Nat, k ≤ la ∧ i = .int .i64 k ∧ ∃ vs1 X1 vs2, Hid (wr.heap[sb]? = some (.cells #[.pointer (some ⟨d, 0, none⟩), .string litFrom, .slice (some ⟨m0, 0, none⟩) lm lm, .slice (some ⟨p0, 0, none⟩) la la, .slice ia N ic, .map (some ib), .slice (some ⟨G1, 0, none⟩) N N, .slice (some ⟨G2, 0, none⟩) N N, .slice none 0 0, .slice none 0 0, .chan none] 77 (0, 0))) ∧ Hid (BA Wb.heap.size wr G1 G2 N vs1 X1 vs2 (fun i => bs (ixf M lm s n) f g i k)) ∧ Hid (∀ i, (X1 i).length ≤ k) ∧ Hid (Foot (fun k => k = sb) Wb wr)) (fun i _ => la - (intOf i).toNat)
        case atStart => exact ⟨0, Nat.zero_le _, rfl, _, _, _, HK, HBA, fun _ => Nat.zero_le _, HF⟩
        case round =>
          clear HK HBA HF n2c
          obtain ⟨k, hk, rfl, vs1, X1, vs2, HK, HBA, HX1, HF⟩ := hrel
          by_cases hlt : k < la
          · skip
            have hlti : (k : Int) < (la : Int) := by omega
            obtain ⟨hDr, _, _, _⟩ := HL.out wr (HSt.out wr HF.out).1
            obtain ⟨c1, c2⟩ := pair_cells hDr.prec0 hlt
            obtain ⟨kf, kg, tf, tg, nf, ng⟩ := HFG.out k hlt
            obtain ⟨s0, hs0⟩ : ∃ s0, f k = s0 := ⟨_, rfl⟩
            obtain ⟨s1, hs1⟩ : ∃ s1, g k = s1 := ⟨_, rfl⟩
            rw [hs0] at c1 kf tf nf
            rw [hs1] at c2 kg tg ng
            obtain ⟨x0, hx0⟩ : ∃ x0, (ixf M lm s n) s0 = x0 := ⟨_, rfl⟩
            obtain ⟨x1, hx1⟩ : ∃ x1, (ixf M lm s n) s1 = x1 := ⟨_, rfl⟩
            have HX0 : Hid ((ixf M lm s n) (f k) = x0 ∧ (ixf M lm s n) (g k) = x1) := ⟨by rw [hs0, hx0], by rw [hs1, hx1]⟩
            rw [hx0] at nf
            rw [hx1] at ng
            obtain ⟨w2, hw2⟩ : ∃ w2, wr.alloc (.cells #[.string s0, .string s1] 72) = w2 := ⟨_, rfl⟩
            have hb2 : Below wr.heap.size wr w2 := by rw [← hw2]; exact (Below.refl _ _).alloc (Nat.le_refl _) _
            have hblk : w2.heap[wr.heap.size]? = some (.cells #[.string s0, .string s1] 72 (0, 0)) := by rw [← hw2]; exact heap_alloc_new _ _
            have hsz2 : w2.heap.size = wr.heap.size + 1 := by rw [← hw2]; simp
            obtain ⟨pb, hpb⟩ : ∃ pb, wr.heap.size = pb := ⟨_, rfl⟩
            rw [hpb] at hblk
            have HF2 : Hid (Foot (fun k => k = sb) Wb w2) := HF.out.onto (hb2.mono HF.out.size)
            have HK2 : Hid (w2.heap[sb]? = some (.cells #[.pointer (some ⟨d, 0, none⟩), .string litFrom, .slice (some ⟨m0, 0, none⟩) lm lm, .slice (some ⟨p0, 0, none⟩) la la, .slice ia N ic, .map (some ib), .slice (some ⟨G1, 0, none⟩) N N, .slice (some ⟨G2, 0, none⟩) N N, .slice none 0 0, .slice none 0 0, .chan none] 77 (0, 0))) := (hb2.block sb (block_lt HK.out)).trans HK.out
            have HBA2 : Hid (BA Wb.heap.size w2 G1 G2 N vs1 X1 vs2 (fun i => bs (ixf M lm s n) f g i k)) := HBA.out.new hb2
            have LK : Hid (∀ X, Below w2.heap.size w2 X → X.cell? ⟨sb, 5, none⟩ = some (.map (some ib)) ∧ X.cell? ⟨pb, 0, none⟩ = some (.string s0) ∧ X.cell? ⟨pb, 1, none⟩ = some (.string s1) ∧ (Instr.lookup 73 (.map (some ib)) (.string s0) false).run Tryf.prog X = .ok (.int .i64 (x0 : Nat)) X ∧ (Instr.lookup 73 (.map (some ib)) (.string s1) false).run Tryf.prog X = .ok (.int .i64 (x1 : Nat)) X) := fun X hX => by
              obtain ⟨_, _, hmp⟩ := HSt.out X (HF2.out.onto (hX.mono HF2.out.size))
              have hbX : X.heap[pb]? = some (.cells #[.string s0, .string s1] 72 (0, 0)) := (hX.block pb (block_lt hblk)).trans hblk
              have hkX : X.heap[sb]? = some (.cells #[.pointer (some ⟨d, 0, none⟩), .string litFrom, .slice (some ⟨m0, 0, none⟩) lm lm, .slice (some ⟨p0, 0, none⟩) la la, .slice ia N ic, .map (some ib), .slice (some ⟨G1, 0, none⟩) N N, .slice (some ⟨G2, 0, none⟩) N N, .slice none 0 0, .slice none 0 0, .chan none] 77 (0, 0)) := (hX.block sb (block_lt HK2.out)).trans HK2.out
              have l1 := hmp.look law9 Go.Proofs.Qxb6605818aFmt.u73 (zero3 X) s1 kg
              have l0 := hmp.look law9 Go.Proofs.Qxb6605818aFmt.u73 (zero3 X) s0 kf
              rw [hx1] at l1
              rw [hx0] at l0
              exact ⟨by simp [World.cell?, hkX], by simp [World.cell?, hbX], by simp [World.cell?, hbX], l0, l1⟩
            have D1 : Hid (Below w2.heap.size w2 w2.drew) := (Below.refl _ _).drew
            have D2 : Hid (Below w2.heap.size w2 w2.drew.drew) := (Below.refl _ _).drew.drew
            -- the first append
            have hBW := HBA2.out.new D2.out
            obtain ⟨v1, w4, e1, e2, e3, e4, e5, e6, ⟨g1, cc1, hv1⟩, e8⟩ := hBW.push ng x0 (by have := HX1.out x1; omega)
            obtain ⟨L1, hL1⟩ : ∃ L1, (X1 x1).length + 1 = L1 := ⟨_, rfl⟩
            rw [hL1] at hv1
            subst hv1
            obtain ⟨V1, hV1⟩ : ∃ V, vs1 x1 = V := ⟨_, rfl⟩
            obtain ⟨w6, hw6⟩ : ∃ w6, w4.setCell ⟨G1, x1, none⟩ (.slice (some ⟨g1, 0, none⟩) L1 cc1) = w6 := ⟨_, rfl⟩
            rw [hw6] at e2 e3
            have hszp : w2.heap.size = pb + 1 := by omega
            have e1 : ∀ ty, (Builtin.append_ #[23, 23] ty #[V1, .slice (some ⟨pb + 1, 0, none⟩) 1 1]).run Tryf.prog (w2.alloc (.cells #[.int .i64 (x0 : Nat)] 3)).drew.drew = .ok (.slice (some ⟨g1, 0, none⟩) L1 cc1) w4 := by
              rw [← hszp, ← hV1]
              exact e1
            have hAl : Below w2.heap.size w2 (w2.alloc (.cells #[.int .i64 (x0 : Nat)] 3)).drew.drew := ((Below.refl _ _).alloc (Nat.le_refl _) _).drew.drew
            have hBA' := HBA2.out.new hAl
            have HC6 : ∀ X : World, X.heap[sb]? = some (.cells #[.pointer (some ⟨d, 0, none⟩), .string litFrom, .slice (some ⟨m0, 0, none⟩) lm lm, .slice (some ⟨p0, 0, none⟩) la la, .slice ia N ic, .map (some ib), .slice (some ⟨G1, 0, none⟩) N N, .slice (some ⟨G2, 0, none⟩) N N, .slice none 0 0, .slice none 0 0, .chan none] 77 (0, 0)) → X.cell? ⟨sb, 6, none⟩ = some (.slice (some ⟨G1, 0, none⟩) N N) ∧ X.cell? ⟨sb, 7, none⟩ = some (.slice (some ⟨G2, 0, none⟩) N N) := fun X hX => by simp [World.cell?, hX]
            have k1 : w2.drew.drew.heap[sb]? = some (.cells #[.pointer (some ⟨d, 0, none⟩), .string litFrom, .slice (some ⟨m0, 0, none⟩) lm lm, .slice (some ⟨p0, 0, none⟩) la la, .slice ia N ic, .map (some ib), .slice (some ⟨G1, 0, none⟩) N N, .slice (some ⟨G2, 0, none⟩) N N, .slice none 0 0, .slice none 0 0, .chan none] 77 (0, 0)) := HK2.out
            have k2 := (hAl.block sb (block_lt HK2.out)).trans HK2.out
            have k4 := (e8.block sb HLB.out).trans k1
            have k6 := (e3.block sb HLB.out).trans k1
            have tA := (HC6 _ k1).1
            have tB := (HC6 _ k2).1
            have tC := (HC6 _ k4).1
            have gA := hBW.n1.out.cell ng
            have gB := hBA'.n1.out.cell ng
            rw [hV1] at gA gB e5
            -- the second append
            have D6 : Below w6.heap.size w6 w6.drew := (Below.refl _ _).drew
            have hBX := (e2.new D6).symm
            obtain ⟨v2, w8, g1', g2, g3, g4, g5, g6, ⟨gg2, cc2, hv2⟩, g8⟩ := hBX.push nf x1 (by have h := bs_length (ixf M lm s n) f g x0 k; exact (show (bs (ixf M lm s n) f g x0 k).length ≤ 1000000 by omega))
            obtain ⟨L2, hL2⟩ : ∃ L2, (bs (ixf M lm s n) f g x0 k).length + 1 = L2 := ⟨_, rfl⟩
            simp only [hL2] at hv2
            subst hv2
            obtain ⟨V2, hV2⟩ : ∃ V, vs2 x0 = V := ⟨_, rfl⟩
            obtain ⟨w9, hw9⟩ : ∃ w9, w8.setCell ⟨G2, x0, none⟩ (.slice (some ⟨gg2, 0, none⟩) L2 cc2) = w9 := ⟨_, rfl⟩
            rw [hw9] at g2 g3
            have g1'' : ∀ ty, (Builtin.append_ #[23, 23] ty #[V2, .slice (some ⟨w6.heap.size, 0, none⟩) 1 1]).run Tryf.prog (w6.alloc (.cells #[.int .i64 (x1 : Nat)] 3)).drew = .ok (.slice (some ⟨gg2, 0, none⟩) L2 cc2) w8 := by
              rw [← hV2]
              exact g1'
            have hAl6 : Below w6.heap.size w6 (w6.alloc (.cells #[.int .i64 (x1 : Nat)] 3)).drew := ((Below.refl _ _).alloc (Nat.le_refl _) _).drew
            have hBA6 := (e2.new hAl6)
            have k7 : w6.drew.heap[sb]? = some (.cells #[.pointer (some ⟨d, 0, none⟩), .string litFrom, .slice (some ⟨m0, 0, none⟩) lm lm, .slice (some ⟨p0, 0, none⟩) la la, .slice ia N ic, .map (some ib), .slice (some ⟨G1, 0, none⟩) N N, .slice (some ⟨G2, 0, none⟩) N N, .slice none 0 0, .slice none 0 0, .chan none] 77 (0, 0)) := k6
            have k8 := (hAl6.block sb (block_lt k6)).trans k6
            have k9 := (g8.block sb HLB.out).trans k7
            have k10 := (g3.block sb HLB.out).trans k7
            have uA := (HC6 _ k7).2
            have uB := (HC6 _ k8).2
            have uC := (HC6 _ k9).2
            have hA := hBX.n1.out.cell nf
            have hB' := hBA6.n2.out.cell nf
            rw [hV2] at hA hB' g5
            have hbs : upd (fun i => bs (ixf M lm s n) f g i k) x0 (bs (ixf M lm s n) f g x0 k ++ [x1]) = fun i => bs (ixf M lm s n) f g i (k + 1) := by
              obtain ⟨y0, y1⟩ := HX0.out
              funext i
              by_cases e : i = x0
              · subst e
                rw [upd_same]
                simp only [bs]
                rw [if_pos y0, y1]
              · rw [upd_other _ _ e]
                have hne : ¬ (ixf M lm s n) (f k) = i := by rw [y0]; omega
                simp only [bs, if_neg hne, List.append_nil]
            have HBA9 : Hid (BA Wb.heap.size w9 G1 G2 N (upd vs1 x1 (.slice (some ⟨g1, 0, none⟩) L1 cc1)) (upd X1 x1 (X1 x1 ++ [x0])) (upd vs2 x0 (.slice (some ⟨gg2, 0, none⟩) L2 cc2)) (fun i => bs (ixf M lm s n) f g i (k + 1))) := by
              have h := g2.symm
              rw [hbs] at h
              exact h
            have HK9 : Hid (w9.heap[sb]? = some (.cells #[.pointer (some ⟨d, 0, none⟩), .string litFrom, .slice (some ⟨m0, 0, none⟩) lm lm, .slice (some ⟨p0, 0, none⟩) la la, .slice ia N ic, .map (some ib), .slice (some ⟨G1, 0, none⟩) N N, .slice (some ⟨G2, 0, none⟩) N N, .slice none 0 0, .slice none 0 0, .chan none] 77 (0, 0))) := k10
            have HX9 : Hid (∀ i, (upd X1 x1 (X1 x1 ++ [x0]) i).length ≤ k + 1) := fun i => by
              have h1 := HX1.out i
              by_cases e : i = x1
              · subst e
                rw [upd_same]
                simp
                exact h1
              · rw [upd_other _ _ e]
                exact Nat.le_succ_of_le h1
            have HF9 : Hid (Foot (fun k => k = sb) Wb w9) := HF2.out.onto ((((Below.refl _ _).drew.drew.trans e3).drew).trans g3)
            clear hDr kf kg tf tg hs0 hs1 hx0 hx1 hb2 hblk hBW e2 e3 e8 hL1 hV1 hAl hBA' HC6 k1 k2 k4 k6 D6 hBX g2 g3 g4 g8 hL2 hV2 g1' hAl6 hBA6 k7 k8 k9 k10 hbs e4 hsz2
            have nfi : (x0 : Int) < (N : Int) := by omega
            have ngi : (x1 : Int) < (N : Int) := by omega
            go_upto_region 15 with fail
            go_cut [12, 13] (fun s12 s13 wx => s12 = .int .i64 (x0 : Nat) ∧ s13 = .int .i64 (x1 : Nat) ∧ wx = w2.drew)
            case first =>
              go_region_held3 (fun X => X.cell? ⟨sb, 5, none⟩ = some (.map (some ib)) ∧ X.cell? ⟨pb, 0, none⟩ = some (.string s0) ∧ X.cell? ⟨pb, 1, none⟩ = some (.string s1) ∧ (Instr.lookup 73 (.map (some ib)) (.string s0) false).run Tryf.prog X = .ok (.int .i64 (x0 : Nat)) X ∧ (Instr.lookup 73 (.map (some ib)) (.string s1) false).run Tryf.prog X = .ok (.int .i64 (x1 : Nat)) X) (exact LK.out _ (Hid.out (by assumption))) (fail)
              all_goals (go_wp2_with fail; go_meet; case rel => exact ⟨rfl, rfl, rfl⟩)
            case rest =>
              obtain ⟨rfl, rfl, rfl⟩ := hcut
              go_upto_region 16 with fail
              go_cut [] (fun wx => wx = w6)
              case first =>
                go_region_law (refine step_app rfl (.tmp 118) (.tmp 120) 23 rfl _ _ _ _ rfl rfl e1 ?_)
                all_goals (go_wp2_with fail; go_meet; case rel => rfl)
              case rest =>
                subst hcut
                go_wp2_with fail
                go_region_law (refine step_app rfl (.tmp 134) (.tmp 136) 23 rfl _ _ _ _ rfl rfl g1'' ?_)
                all_goals
                  go_wp2
                  refine ⟨⟨k + 1, by omega, by go_num, _, _, _, HK9, HBA9, HX9, HF9⟩, ?_⟩
                  simp [intOf]; omega
          · obtain rfl : la = k := by omega
            obtain ⟨W3, rfl⟩ : ∃ W3, W3 = wr := ⟨_, rfl⟩
            obtain ⟨hD3, n0, n1, n2⟩ := HL.out W3 (HSt.out W3 HF.out).1
            have hB3 := (HSt.out W3 HF.out).1
            have hmul : ∀ x, inStr M x lm = true → x ∈ ulOf M lm := fun x hx => by
              obtain ⟨i, hi, e⟩ := (inStr_iff _ _ _).1 hx
              exact mem_ulOf.2 ⟨i, hi, e⟩
            have hkul : ∀ x ∈ ulOf M lm, strKey x := fun x hx => by
              obtain ⟨i, hi, rfl⟩ := mem_ulOf.1 hx
              obtain ⟨j, hj, hjs⟩ := hMs i hi
              rw [← hjs]
              exact HS.out j hj
            have HKU : Hid (∀ x ∈ ulOf M lm, strKey x) := hkul
            have HSEQ : Hid (Calls Tryf.prog 27 #[.agg #[.string litFrom, .slice (some ⟨m0, 0, none⟩) lm lm, .slice (some ⟨p0, 0, none⟩) la la]] W3 fun e w' => (∃ sv ev, e = .returned (.tuple #[sv, ev]) ∧ Names w' sv (ulOf M lm) 5000) ∧ Below W3.heap.size W3 w') := sequence_any F0 litFrom m0 p0 lm la M f g W3 (by rw [hB3.tape, HB1.out.tape]; exact hF0) hlm hla hD3.mem0 hD3.prec0 (fun i hi => by
                obtain ⟨j, hj, hjs⟩ := hMs i hi
                rw [← hjs]
                exact hs j hj) (fun i hi => hmul _ (hfg i hi).1) (fun i hi => hmul _ (hfg i hi).2)
            clear hmul hkul hD3 hB3
            go_wp2_with fail
            refine Calls.mono HSEQ.out ?_
            rintro e W4 ⟨⟨sv, ev, rfl, ⟨qa, ql', qc, tq, rfl, hql', hqc, hsl, htq, hqx, hqn⟩⟩, hb4⟩
            have HTQ : Hid (∀ i, i < ql' → tq i ∈ ulOf M lm) := htq
            have HK4 : Hid (W4.heap[sb]? = some (.cells #[.pointer (some ⟨d, 0, none⟩), .string litFrom, .slice (some ⟨m0, 0, none⟩) lm lm, .slice (some ⟨p0, 0, none⟩) la la, .slice ia N ic, .map (some ib), .slice (some ⟨G1, 0, none⟩) N N, .slice (some ⟨G2, 0, none⟩) N N, .slice none 0 0, .slice none 0 0, .chan none] 77 (0, 0))) := (hb4.block sb (block_lt HK.out)).trans HK.out
            have HBA4 : Hid (BA Wb.heap.size W4 G1 G2 N vs1 X1 vs2 (fun i => bs (ixf M lm s n) f g i la)) := HBA.out.new hb4
            have HF4 : Hid (Foot (fun k => k = sb) Wb W4) := HF.out.onto (hb4.mono HF.out.size)
            have HSQ : Hid (∀ X, Foot (fun k => k = sb) W4 X → Sl X qa ql' (strV tq)) := fun X hX => by
              by_cases e0 : ql' = 0
              · intro i hi
                omega
              · refine hsl.kept hX (fun x hx e => ?_)
                obtain ⟨y, hy, hc⟩ := hsl 0 (by omega)
                rw [hx] at hy
                cases hy
                rw [(hqx x hx).1, Addr.add_lit, e] at hc
                simp [World.cell?, HK4.out, strV] at hc
            have hqi : (ql' : Int) ≤ 5000 := by omega
            clear hsl htq hqx hqn hb4 HK HBA HX1 HF n0 n1 n2 HSEQ
            go_wp2
            go_loopw [147] (fun i wr => ∃ k : Nat, k ≤ ql' ∧ i = .int .i64 k ∧ ∃ v ys, Hid (wr.heap[sb]? = some (.cells #[.pointer (some ⟨d, 0, none⟩), .string litFrom, .slice (some ⟨m0, 0, none⟩) lm lm, .slice (some ⟨p0, 0, none⟩) la la, .slice ia N ic, .map (some ib), .slice (some ⟨G1, 0, none⟩) N N, .slice (some ⟨G2, 0, none⟩) N N, v, .slice none 0 0, .chan none] 77 (0, 0))) ∧ Hid (Own W4.heap.size 3 wr v ys) ∧ Hid (ys.length = k) ∧ Hid (Foot (fun k => k = sb) W4 wr)) (fun i _ => ql' - (intOf i).toNat)
            case atStart => exact ⟨0, Nat.zero_le _, rfl, _, [], HK4, Own.nil _ _ _, rfl, Foot.refl _ _⟩
            case round =>
              clear HK4
              obtain ⟨k, hk, rfl, v, ys, HK, HO, HY, HF⟩ := hrel
              by_cases hlt : k < ql'
              · skip
                have hlti : (k : Int) < (ql' : Int) := by omega
                obtain ⟨y, hy, hcy⟩ := HSQ.out wr HF.out k hlt
                subst hy
                have hkx := HKU.out _ (HTQ.out k hlt)
                obtain ⟨x, hx⟩ : ∃ x, tq k = x := ⟨_, rfl⟩
                have hcx : wr.cell? (y.add k) = some (.string x) := by rw [hcy]; simp only [strV, hx]
                clear hcy
                rw [hx] at hkx
                obtain ⟨_, _, hmp⟩ := HSt.out wr (HF4.out.trans HF.out (fun _ _ e => e))
                have hmd := hmp.kept (S := fun _ => False) (w' := wr.drew) (Foot.refl _ _).drew id
                have lk := hmd.look law9 Go.Proofs.Qxb6605818aFmt.u73 (zero3 wr.drew) x hkx
                obtain ⟨r, hr⟩ : ∃ r, (ixf M lm s n) x = r := ⟨_, rfl⟩
                rw [hr] at lk
                have hkd : wr.drew.heap[sb]? = some (.cells #[.pointer (some ⟨d, 0, none⟩), .string litFrom, .slice (some ⟨m0, 0, none⟩) lm lm, .slice (some ⟨p0, 0, none⟩) la la, .slice ia N ic, .map (some ib), .slice (some ⟨G1, 0, none⟩) N N, .slice (some ⟨G2, 0, none⟩) N N, v, .slice none 0 0, .chan none] 77 (0, 0)) := HK.out
                have hod : Own W4.heap.size 3 wr.drew v ys := HO.out.kept (S := fun _ => False) (Foot.refl _ _).drew (fun _ _ e => e)
                obtain ⟨v', w2, e1, e2, e3, e4, e5, e6, e7, ⟨g', c', hv'⟩⟩ := own_cell_push (sb := sb) (i := 8) 23 _ _ Tryf.underlying23 info3 rfl (by omega) hkd (by rfl) hod (by decide) (.int .i64 (r : Nat)) rfl (by have := HY.out; omega) HF.out.size
                obtain ⟨L1, hL1⟩ : ∃ L1, ys.length + 1 = L1 := ⟨_, rfl⟩
                rw [hL1] at hv'
                subst hv'
                obtain ⟨w6, hw6⟩ : ∃ w6, w2.setCell ⟨sb, 8, none⟩ (.slice (some ⟨g', 0, none⟩) L1 c') = w6 := ⟨_, rfl⟩
                rw [hw6] at e2 e3 e4
                have HK6 : Hid (w6.heap[sb]? = some (.cells #[.pointer (some ⟨d, 0, none⟩), .string litFrom, .slice (some ⟨m0, 0, none⟩) lm lm, .slice (some ⟨p0, 0, none⟩) la la, .slice ia N ic, .map (some ib), .slice (some ⟨G1, 0, none⟩) N N, .slice (some ⟨G2, 0, none⟩) N N, .slice (some ⟨g', 0, none⟩) L1 c', .slice none 0 0, .chan none] 77 (0, 0))) := by rw [e2]; rfl
                have HO6 : Hid (Own W4.heap.size 3 w6 (.slice (some ⟨g', 0, none⟩) L1 c') (ys ++ [.int .i64 (r : Nat)])) := e3
                have HY6 : Hid ((ys ++ [Value.int .i64 (r : Nat)]).length = k + 1) := by show _ = _; rw [List.length_append, HY.out]; rfl
                have HF6 : Hid (Foot (fun k => k = sb) W4 w6) := (HF.out.trans (Foot.refl (fun k => k = sb) wr).drew (fun _ _ e => e)).trans e4 (fun i hi e => by
                  rcases e with e | e
                  · exact e
                  · have := (hod.lt e).1
                    omega)
                have hAl : Below wr.heap.size wr (wr.alloc (.cells #[.int .i64 (r : Nat)] 3)).drew := ((Below.refl _ _).alloc (Nat.le_refl _) _).drew
                have hC : ∀ X : World, X.heap[sb]? = some (.cells #[.pointer (some ⟨d, 0, none⟩), .string litFrom, .slice (some ⟨m0, 0, none⟩) lm lm, .slice (some ⟨p0, 0, none⟩) la la, .slice ia N ic, .map (some ib), .slice (some ⟨G1, 0, none⟩) N N, .slice (some ⟨G2, 0, none⟩) N N, v, .slice none 0 0, .chan none] 77 (0, 0)) → X.cell? ⟨sb, 5, none⟩ = some (.map (some ib)) ∧ X.cell? ⟨sb, 8, none⟩ = some v := fun X hX => by simp [World.cell?, hX]
                obtain ⟨tA, tB⟩ := hC _ hkd
                obtain ⟨tC, tD⟩ := hC _ ((hAl.block sb (block_lt HK.out)).trans HK.out)
                have g1 : ∀ ty, (Builtin.append_ #[23, 23] ty #[v, .slice (some ⟨wr.heap.size, 0, none⟩) 1 1]).run Tryf.prog (wr.alloc (.cells #[.int .i64 (r : Nat)] 3)).drew = .ok (.slice (some ⟨g', 0, none⟩) L1 c') w2 := e1
                clear hmp hmd hr hkd hod e1 e2 e3 e4 e7 hL1 hAl hC hkx
                go_wp2_with fail
                go_region_law (refine step_app rfl (.tmp 155) (.tmp 162) 23 rfl _ _ _ _ rfl rfl g1 ?_)
                all_goals
                  go_wp2
                  refine ⟨⟨k + 1, by omega, by go_num, _, _, HK6, HO6, HY6, HF6⟩, ?_⟩
                  simp [intOf]; omega
              · obtain rfl : ql' = k := by omega
                obtain ⟨W5, rfl⟩ : ∃ W5, W5 = wr := ⟨_, rfl⟩
                have HF5 : Hid (Foot (fun k => k = sb) Wb W5) := HF4.out.trans HF.out (fun _ _ e => e)
                have HBA5 : Hid (BA Wb.heap.size W5 G1 G2 N vs1 X1 vs2 (fun i => bs (ixf M lm s n) f g i la)) := by
                  have hlo : ∀ b, Wb.heap.size ≤ b → ¬ (b = sb) := fun b hb e => by have := HLB.out; omega
                  have h := HBA4.out
                  exact ⟨h.n1.kept HF.out (hlo _ h.n1.lo) (fun i hi b hb => hlo b ((h.n1.own i hi).lt hb).1), h.n2.kept HF.out (hlo _ h.n2.lo) (fun i hi b hb => hlo b ((h.n2.own i hi).lt hb).1), h.ne, h.dis⟩
                have HSW : Hid (∀ X tv, Foot (fun k => k = sb) W5 X → X.heap[sb]? = some (.cells #[.pointer (some ⟨d, 0, none⟩), .string litFrom, .slice (some ⟨m0, 0, none⟩) lm lm, .slice (some ⟨p0, 0, none⟩) la la, .slice ia N ic, .map (some ib), .slice (some ⟨G1, 0, none⟩) N N, .slice (some ⟨G2, 0, none⟩) N N, v, tv, .chan none] 77 (0, 0)) → SwR X sb d ib P ia ic N G2 lp nn (fun i => (idl M lm s n).getD i ⟨#[]⟩) (ixf M lm s n) (hsf M lm s n) vs2 (fun i => bs (ixf M lm s n) f g i la) G s pl ql zp zo) := fun X tv hX hblk => by
                  obtain ⟨hBX, hown, hmp⟩ := HSt.out X (HF5.out.trans hX (fun _ _ e => e))
                  obtain ⟨hDX, _, _, _⟩ := HL.out X hBX
                  have hlo : ∀ b, Wb.heap.size ≤ b → ¬ (b = sb) := fun b hb e => by have := HLB.out; omega
                  have h2 := HBA5.out.n2.kept hX (hlo _ HBA5.out.n2.lo) (fun i hi b hb => hlo b ((HBA5.out.n2.own i hi).lt hb).1)
                  refine ⟨by simp [World.cell?, hblk], by simp [World.cell?, hblk], by simp [World.cell?, hblk], by simp [World.cell?, hblk], ?_, hmp, h2.out, fun i hi => h2.read hi, by simp [World.cell?, hDX.blk], hDX.prefs, hDX.pref⟩
                  refine ((hown.reads rfl).2).congr (fun i hi => ?_)
                  have hi2 : i < (idl M lm s n).length := by rw [HN0.out]; exact hi
                  simp [strV, List.getD, hi2]
                have HTGT : Hid (∀ X tv, Foot (fun k => k = sb) W5 X → X.heap[sb]? = some (.cells #[.pointer (some ⟨d, 0, none⟩), .string litFrom, .slice (some ⟨m0, 0, none⟩) lm lm, .slice (some ⟨p0, 0, none⟩) la la, .slice ia N ic, .map (some ib), .slice (some ⟨G1, 0, none⟩) N N, .slice (some ⟨G2, 0, none⟩) N N, v, tv, .chan none] 77 (0, 0)) → Calls Tryf.prog 24 #[.pointer (some ⟨sb, 0, none⟩), .agg #[.string litTo, .slice (some ⟨m1, 0, none⟩) lm lm, .slice (some ⟨p1, 0, none⟩) la la]] X fun e w' => ∃ G1 G2 Mb av ac, e = .returned (.agg #[.string litTo, .slice (some ⟨m1, 0, none⟩) lm lm, .slice (some ⟨p1, 0, none⟩) la la, .slice (some ⟨G1, 0, none⟩) N N, .slice (some ⟨G2, 0, none⟩) N N, .slice (some ⟨Mb, 0, none⟩) N N, .slice av lp ac]) ∧ Below X.heap.size X w') := fun X tv hX hblk => by
                  obtain ⟨hBX, _, _⟩ := HSt.out X (HF5.out.trans hX (fun _ _ e => e))
                  obtain ⟨hDX, _, _, _⟩ := HL.out X hBX
                  have hMi : ∀ i, i < lm → (hsf M lm s n) (M i) = true := fun i hi => by
                    obtain ⟨j, hj, hjs⟩ := hMs i hi
                    rw [← hjs]
                    exact hsf_of n hj ((inStr_iff _ _ _).2 ⟨i, hi, hjs.symm⟩)
                  have hT := target_any sb d ib P ia ic N G2 lp nn (fun i => (idl M lm s n).getD i ⟨#[]⟩) (ixf M lm s n) (hsf M lm s n) vs2 (fun i => bs (ixf M lm s n) f g i la) G s pl ql zp zo litTo m1 p1 lm la M f g X (by have h1 := HN0.out; have h2 := idl_length (M := M) (lm := lm) (s := s) n; omega) hlm hla hlp HFG.out (fun i hi => by
                      have hi2 : i < (idl M lm s n).length := by rw [HN0.out]; exact hi
                      have e : (idl M lm s n).getD i ⟨#[]⟩ = (idl M lm s n)[i] := by simp [List.getD, hi2]
                      show inStr M ((idl M lm s n).getD i ⟨#[]⟩) lm = true
                      rw [e]
                      exact idl_mem n _ (List.getElem_mem hi2)) (fun i hi => Nat.le_trans (bs_length _ _ _ _ _) hla) (fun i hi j hj => by
                      obtain ⟨k, hk, rfl⟩ := bs_mem _ _ _ _ _ _ hj
                      exact (HFG.out k hk).2.2.2.2.2) (fun i hi => by
                      obtain ⟨j, hj, hjs⟩ := hMs i hi
                      rw [← hjs]
                      exact HS.out j hj) hMi hpl hql (HSW.out X tv hX hblk) hDX.mem1 hDX.prec1
                  unfold ordV at hT
                  refine Calls.mono hT ?_
                  rintro e w' ⟨v', Ga, Gb, Mb, av, ac, us1, us2, als, rfl, hR, hb⟩
                  exact ⟨Ga, Gb, Mb, av, ac, by rw [hR.val], hb⟩
                have HO5 : Hid (∀ X, Foot (fun k => k = sb) W5 X → X.cell? ⟨O, 0, none⟩ = some (.string litFrom) ∧ X.cell? ⟨O, 1, none⟩ = some (.slice (some ⟨m0, 0, none⟩) lm lm) ∧ X.cell? ⟨O, 2, none⟩ = some (.slice (some ⟨p0, 0, none⟩) la la) ∧ X.cell? ⟨O, 3, none⟩ = some (.string litTo) ∧ X.cell? ⟨O, 4, none⟩ = some (.slice (some ⟨m1, 0, none⟩) lm lm) ∧ X.cell? ⟨O, 5, none⟩ = some (.slice (some ⟨p1, 0, none⟩) la la)) := fun X hX => by
                  obtain ⟨hBX, _, _⟩ := HSt.out X (HF5.out.trans hX (fun _ _ e => e))
                  obtain ⟨hDX, _, _, _⟩ := HL.out X hBX
                  simp [World.cell?, hDX.ords]
                have c2 : W5.cell? ⟨d, 2, none⟩ = some (.slice (some ⟨O, 0, none⟩) 2 2) := by
                  obtain ⟨hBX, _, _⟩ := HSt.out W5 HF5.out
                  obtain ⟨hDX, _, _, _⟩ := HL.out W5 hBX
                  simp [World.cell?, hDX.blk]
                have HK5 : Hid (W5.heap[sb]? = some (.cells #[.pointer (some ⟨d, 0, none⟩), .string litFrom, .slice (some ⟨m0, 0, none⟩) lm lm, .slice (some ⟨p0, 0, none⟩) la la, .slice ia N ic, .map (some ib), .slice (some ⟨G1, 0, none⟩) N N, .slice (some ⟨G2, 0, none⟩) N N, v, .slice none 0 0, .chan none] 77 (0, 0))) := HK.out
                clear HSQ HTQ HKU HO HY HF HF4 HBA4 HK
                go_wp2
                go_loopw [172] (fun i wr => ∃ k : Nat, k ≤ 2 ∧ i = .int .i64 k ∧ ∃ tv, Hid (wr.heap[sb]? = some (.cells #[.pointer (some ⟨d, 0, none⟩), .string litFrom, .slice (some ⟨m0, 0, none⟩) lm lm, .slice (some ⟨p0, 0, none⟩) la la, .slice ia N ic, .map (some ib), .slice (some ⟨G1, 0, none⟩) N N, .slice (some ⟨G2, 0, none⟩) N N, v, tv, .chan none] 77 (0, 0))) ∧ Hid (k ≤ 1 → tv = .slice none 0 0) ∧ Hid (Foot (fun k => k = sb) W5 wr)) (fun i _ => 2 - (intOf i).toNat)
                case atStart => exact ⟨0, by omega, rfl, _, HK5, fun _ => rfl, Foot.refl _ _⟩
                case round =>
                  clear HK5 c2
                  obtain ⟨k, hk, rfl, tv, HK, HTV, HF⟩ := hrel
                  obtain ⟨o0, o1, o2, o3, o4, o5⟩ := HO5.out wr HF.out
                  rcases (show k = 0 ∨ k = 1 ∨ k = 2 by omega) with rfl | rfl | rfl
                  · skip
                    obtain ⟨w2, hw2⟩ : ∃ w2, wr.alloc (.cells #[.string litFrom, .slice (some ⟨m0, 0, none⟩) lm lm, .slice (some ⟨p0, 0, none⟩) la la] 43) = w2 := ⟨_, rfl⟩
                    have hb2 : Below wr.heap.size wr w2 := by rw [← hw2]; exact (Below.refl _ _).alloc (Nat.le_refl _) _
                    have HK2 : Hid (w2.heap[sb]? = some (.cells #[.pointer (some ⟨d, 0, none⟩), .string litFrom, .slice (some ⟨m0, 0, none⟩) lm lm, .slice (some ⟨p0, 0, none⟩) la la, .slice ia N ic, .map (some ib), .slice (some ⟨G1, 0, none⟩) N N, .slice (some ⟨G2, 0, none⟩) N N, v, tv, .chan none] 77 (0, 0))) := (hb2.block sb (block_lt HK.out)).trans HK.out
                    have HF2 : Hid (Foot (fun k => k = sb) W5 w2) := HF.out.onto (hb2.mono HF.out.size)
                    have HTV2 : Hid (0 + 1 ≤ 1 → tv = .slice none 0 0) := fun _ => HTV.out (by omega)
                    clear hb2
                    go_wp2
                    refine ⟨⟨0 + 1, by omega, by go_num, _, HK2, HTV2, HF2⟩, ?_⟩
                    simp [intOf]
                  · skip
                    obtain rfl : tv = .slice none 0 0 := HTV.out (by omega)
                    obtain ⟨w2, hw2⟩ : ∃ w2, wr.alloc (.cells #[.string litTo, .slice (some ⟨m1, 0, none⟩) lm lm, .slice (some ⟨p1, 0, none⟩) la la] 43) = w2 := ⟨_, rfl⟩
                    have hb2 : Below wr.heap.size wr w2 := by rw [← hw2]; exact (Below.refl _ _).alloc (Nat.le_refl _) _
                    have hblk : w2.heap[wr.heap.size]? = some (.cells #[.string litTo, .slice (some ⟨m1, 0, none⟩) lm lm, .slice (some ⟨p1, 0, none⟩) la la] 43 (0, 0)) := by rw [← hw2]; exact heap_alloc_new _ _
                    obtain ⟨pb, hpb⟩ : ∃ pb, wr.heap.size = pb := ⟨_, rfl⟩
                    rw [hpb] at hblk
                    have HK2 : Hid (w2.heap[sb]? = some (.cells #[.pointer (some ⟨d, 0, none⟩), .string litFrom, .slice (some ⟨m0, 0, none⟩) lm lm, .slice (some ⟨p0, 0, none⟩) la la, .slice ia N ic, .map (some ib), .slice (some ⟨G1, 0, none⟩) N N, .slice (some ⟨G2, 0, none⟩) N N, v, .slice none 0 0, .chan none] 77 (0, 0))) := (hb2.block sb (block_lt HK.out)).trans HK.out
                    have HF2 : Hid (Foot (fun k => k = sb) W5 w2) := HF.out.onto (hb2.mono HF.out.size)
                    have HCS : w2.drew.cell? ⟨pb, 0, none⟩ = some (.string litTo) ∧ w2.drew.cell? ⟨pb, 1, none⟩ = some (.slice (some ⟨m1, 0, none⟩) lm lm) ∧ w2.drew.cell? ⟨pb, 2, none⟩ = some (.slice (some ⟨p1, 0, none⟩) la la) := by
                      have h1 : w2.drew.heap[pb]? = some (.cells #[.string litTo, .slice (some ⟨m1, 0, none⟩) lm lm, .slice (some ⟨p1, 0, none⟩) la la] 43 (0, 0)) := hblk
                      simp [World.cell?, h1]
                    obtain ⟨j0, j1, j2⟩ := HCS
                    have HC9 : Hid (∀ X : World, X.heap[sb]? = some (.cells #[.pointer (some ⟨d, 0, none⟩), .string litFrom, .slice (some ⟨m0, 0, none⟩) lm lm, .slice (some ⟨p0, 0, none⟩) la la, .slice ia N ic, .map (some ib), .slice (some ⟨G1, 0, none⟩) N N, .slice (some ⟨G2, 0, none⟩) N N, v, .slice none 0 0, .chan none] 77 (0, 0)) → X.cell? ⟨sb, 9, none⟩ = some (.slice none 0 0) ∧ X.frozen? ⟨sb, 9, none⟩ = false) := fun X h1 => by simp [World.cell?, World.frozen?, h1]
                    have s9 : w2.drew.cell? ⟨sb, 9, none⟩ = some (.slice none 0 0) := (HC9.out _ HK2.out).1
                    have D1 : Hid (Below w2.heap.size w2 w2.drew) := (Below.refl _ _).drew
                    have HKd : Hid (w2.drew.heap[sb]? = some (.cells #[.pointer (some ⟨d, 0, none⟩), .string litFrom, .slice (some ⟨m0, 0, none⟩) lm lm, .slice (some ⟨p0, 0, none⟩) la la, .slice ia N ic, .map (some ib), .slice (some ⟨G1, 0, none⟩) N N, .slice (some ⟨G2, 0, none⟩) N N, v, .slice none 0 0, .chan none] 77 (0, 0))) := HK2.out
                    have HFd : Hid (Foot (fun k => k = sb) W5 w2.drew) := HF2.out.drew
                    have HTG : Hid (Calls Tryf.prog 24 #[.pointer (some ⟨sb, 0, none⟩), .agg #[.string litTo, .slice (some ⟨m1, 0, none⟩) lm lm, .slice (some ⟨p1, 0, none⟩) la la]] w2.drew fun e w' => ∃ v, e = .returned v ∧ ∃ G1 G2 Mb av ac, v = .agg #[.string litTo, .slice (some ⟨m1, 0, none⟩) lm lm, .slice (some ⟨p1, 0, none⟩) la la, .slice (some ⟨G1, 0, none⟩) N N, .slice (some ⟨G2, 0, none⟩) N N, .slice (some ⟨Mb, 0, none⟩) N N, .slice av lp ac] ∧ Below w2.drew.heap.size w2.drew w') := Calls.mono (HTGT.out w2.drew _ HFd.out HKd.out) (fun e w' h => by
                      obtain ⟨Ga, Gb, Mb, av, ac, rfl, hb⟩ := h
                      exact ⟨_, rfl, Ga, Gb, Mb, av, ac, rfl, hb⟩)
                    clear hb2 hblk o0 o1 o2
                    go_wp2_with fail
                    go_region_law
                      (first
                        | (refine step_call2 rfl 24 Tryf.func24 name24 body24 (.tmp 185) (.tmp 186) 68 43 rfl _ _ _ rfl rfl HTG.out ?_
                           rintro _ w3 ⟨Ga, Gb, Mb, av, ac, rfl, hb3⟩
                           have HB3 : Hid (Below w2.heap.size w2 w3) := D1.out.trans hb3
                           obtain ⟨gg, cc, w4, ap, hb4⟩ := tg_app w3 (.string litTo) (.slice (some ⟨m1, 0, none⟩) lm lm) (.slice (some ⟨p1, 0, none⟩) la la) (.slice (some ⟨Ga, 0, none⟩) N N) (.slice (some ⟨Gb, 0, none⟩) N N) (.slice (some ⟨Mb, 0, none⟩) N N) (.slice av lp ac) rfl rfl rfl rfl rfl rfl rfl
                           have HB3a : Hid (Below w2.heap.size w2 (w3.alloc (.cells #[.string litTo, .slice (some ⟨m1, 0, none⟩) lm lm, .slice (some ⟨p1, 0, none⟩) la la, .slice (some ⟨Ga, 0, none⟩) N N, .slice (some ⟨Gb, 0, none⟩) N N, .slice (some ⟨Mb, 0, none⟩) N N, .slice av lp ac] 67))) := HB3.out.alloc HB3.out.size _
                           have HB4 : Hid (Below w2.heap.size w2 w4) := HB3.out.trans (hb4.mono HB3.out.size)
                           have s93 := (HC9.out _ ((HB3.out.block sb (block_lt HK2.out)).trans HK2.out)).1
                           have s93a := (HC9.out _ ((HB3a.out.block sb (block_lt HK2.out)).trans HK2.out)).1
                           obtain ⟨z9, z9f⟩ := HC9.out _ ((HB4.out.block sb (block_lt HK2.out)).trans HK2.out)
                           clear hb3 hb4)
                        | (refine step_app rfl (.tmp 184) (.tmp 188) 74 rfl _ _ _ _ rfl rfl ap ?_))
                    all_goals
                      have hk4 := (HB4.out.block sb (block_lt HK2.out)).trans HK2.out
                      have HKe : Hid ((w4.setCell ⟨sb, 9, none⟩ (.slice (some ⟨gg, 0, none⟩) 1 cc)).heap[sb]? = some (.cells #[.pointer (some ⟨d, 0, none⟩), .string litFrom, .slice (some ⟨m0, 0, none⟩) lm lm, .slice (some ⟨p0, 0, none⟩) la la, .slice ia N ic, .map (some ib), .slice (some ⟨G1, 0, none⟩) N N, .slice (some ⟨G2, 0, none⟩) N N, v, .slice (some ⟨gg, 0, none⟩) 1 cc, .chan none] 77 (0, 0))) := by
                        show _ = _
                        simp [World.setCell, Array.getElem?_modify, hk4]
                      have HFe : Hid (Foot (fun k => k = sb) W5 (w4.setCell ⟨sb, 9, none⟩ (.slice (some ⟨gg, 0, none⟩) 1 cc))) := (HF2.out.onto (HB4.out.mono HF2.out.size)).trans ((Foot.setCell w4 ⟨sb, 9, none⟩ _).mono (fun k _ e => e)) (fun _ _ e => e)
                      have HTE : Hid (1 + 1 ≤ 1 → Value.slice (some ⟨gg, 0, none⟩) 1 cc = .slice none 0 0) := fun h => by omega
                      clear hk4
                      go_wp2
                      refine ⟨⟨1 + 1, by omega, by go_num, _, HKe, HTE, HFe⟩, ?_⟩
                      simp [intOf]
                  · skip
                    have hSW := HSW.out wr tv HF.out HK.out
                    have hBE : Below w.heap.size w wr := by
                      have h := (HSt.out wr (HF5.out.trans HF.out (fun _ _ e => e))).1
                      exact HB1.out.trans (h.mono HB1.out.size)
                    have hNN := HN0.out
                    go_wp2
                    go_ret
                    exact ⟨sb, ib, ia, ic, G2, nn, vs2, rfl, by rw [hNN]; exact hSW, hBE⟩
end Go.Proofs.Qxb6605818aFmt
