import Derived.Test.Qxb6605852aAddP
import Derived.Test.Qxb6605852aDropAny
import Derived.Test.Qxb6605852aKeep
import Derived.Test.Qxb6605852aKeep2
import Derived.Test.Qxb6605852aAdd
import Derived.Test.Qxb6605852aAdd3
import Derived.Test.Qxb6605852aAdd4
import Derived.Test.Qxb6605852aAdd5
namespace Go.Proofs.Qxb6605852a
open Go.RowKit Go.Shelf
set_option linter.unusedVariables false

def Added (ss : List Seg) (f : Nat → Nat) (sz row m : Nat) (ss' : List Seg) (f' : Nat → Nat) (sz' : Nat) : Prop :=
  (AddedRun ss ss' row m ∧ f' = f ∧ sz' = sz) ∨ (AddedList ss ss' row m ∧ f' = f ∧ sz' = sz) ∨ (ss' = ss ∧ f' = upd f row (2 ^ m) ∧ sz' = sz + 1)

theorem spill_mono {w : World} {mv : Value} {n n' sz : Nat} {f : Nat → Nat} (h : Spill w mv n f sz) (hn : n ≤ n') : Spill w mv n' f sz := by
  rcases h with h | ⟨b, rfl, h⟩
  · exact .inl h
  · exact .inr ⟨b, rfl, h.mono hn⟩

theorem RlSt.more {S S' : Nat → Prop} {w : World} {rb n n' sz : Nat} {ss : List Seg} {f : Nat → Nat} (h : RlSt S w rb ss n f sz) (hn : n ≤ n') (hS : ∀ k, S k → S' k) : RlSt S' w rb ss n' f sz := by
  obtain ⟨⟨sv, mv, hH, hW, hSp, s1, s2⟩, s3⟩ := h
  exact ⟨⟨sv, mv, hH, hW, spill_mono hSp hn, fun b hb => hS b (s1 b hb), fun b hb => hS b (s2 b hb)⟩, hS _ s3⟩

theorem RlSt.kept {S T : Nat → Prop} {w w' : World} {rb n sz : Nat} {ss : List Seg} {f : Nat → Nat} (h : RlSt S w rb ss n f sz) (hF : Foot T w w') (hd : ∀ k, S k → ¬ T k) : RlSt S w' rb ss n f sz := by
  obtain ⟨⟨sv, mv, hH, hW, hSp, s1, s2⟩, s3⟩ := h
  exact ⟨⟨sv, mv, hH.kept hF (hd _ s3), words_kept hW hF (fun b hb => hd b (s1 b hb)), spill_kept hSp hF (fun b hb => hd b (s2 b hb)), s1, s2⟩, s3⟩

theorem keep_any (S : Nat → Prop) (w : World) (rb : Nat) (ss : List Seg) (sn sz : Nat) (f : Nat → Nat) (row m : Nat) (h : RlSt S w rb ss sn f sz) (hs : Shape ss) (hl : (flat ss).length ≤ 99990) (hsn : sn ≤ 1000000) (hr : row < 4294967296) (hv : okMode m) (h0 : m ≠ 0)
    (hL : ¬ inList ss row m) (hf0 : f row = 0) :
    Calls Try.prog 34 #[.pointer (some ⟨rb, 0, none⟩), .int .u32 row, .int .u8 m] w fun e w' => e = .returned (.tuple #[]) ∧ Foot S w w' ∧ ∃ ss' f' sz', RlSt (fun k => S k ∨ w.heap.size ≤ k) w' rb ss' (sn + 1) f' sz' ∧ (flat ss').length ≤ (flat ss).length + 2 ∧ Added ss f sz row m ss' f' sz' := by
  obtain ⟨⟨sv, mv, hH, hW, hS, s1, s2⟩, s3⟩ := h
  have hG := hs.good (by omega)
  have hm32 := okMode_lt hv
  by_cases hex : ∃ j, ∃ h : j < ss.length, ss[j].mode = 0
  · obtain ⟨j, hj, hm⟩ := hex
    have hone := fun i hi e => hs.one j hj 0 hm i hi e
    by_cases h16 : ss[j].words.length < 16
    · refine (keep_room rb row m _ j _ _ _ sv mv ss w hG rfl hl hr hm32 hH hW hj hm rfl rfl h16 rfl hone).mono ?_
      rintro e w' ⟨rfl, sv', hH', hW', hsn', hF⟩
      rw [flat_grow_after ss j hj _ _ _ 1 _ ss[j].words.length _ 0 0 rfl rfl rfl rfl (by omega)] at hW'
      have e1 : (ss[j].words ++ List.replicate 1 0).set ss[j].words.length (lw row m) = ss[j].words ++ [lw row m] := by
        rw [List.set_append, if_neg (by omega), Nat.sub_self]; rfl
      rw [e1] at hW'
      obtain ⟨a, b⟩ := rlst_words hH hW hS s1 s2 s3 hH' hW' hsn' hF
      refine ⟨rfl, a, _, f, sz, b.more (by omega) (fun _ e => e), ?_, .inr (.inl ⟨keep_room_pure hs j hj hm m hv h0 row hr h16 (fun e => hL ⟨ss[j], List.getElem_mem hj, hm, e⟩), rfl, rfl⟩)⟩
      have := flat_set_length ss j hj ⟨0, 0, ss[j].words ++ [lw row m]⟩
      simp at this
      omega
    · refine (keep_spill rb row m _ j _ _ sn sz sv mv ss f w hG rfl hl hr hm32 hH hW hS hsn hf0 hj hm rfl rfl h16 hone).mono ?_
      rintro e w' ⟨rfl, mv', hH', hW', hS', hmb, hF⟩
      refine ⟨rfl, hF.mono (fun i _ e => ?_), ss, _, _, ⟨⟨sv, mv', hH', hW', hS', fun b hb => .inl (s1 b hb), fun b hb => ?_⟩, .inl s3⟩, by omega, .inr (.inr ⟨rfl, rfl, rfl⟩)⟩
      · rcases e with rfl | e
        · exact s3
        · exact s2 i e
      · rcases hmb b hb with h | h
        · exact .inl (s2 b h)
        · exact .inr h
  · have hno : ∀ j (hj : j < ss.length), ss[j].mode ≠ 0 := fun j hj e => hex ⟨j, hj, e⟩
    refine (keep_new rb row m _ sv mv ss w hG rfl hl hr hm32 hH hW hno).mono ?_
    rintro e w' ⟨rfl, sv', hH', hW', hsn', hF⟩
    rw [flat_new ss _ _ 0 0 rfl] at hW'
    obtain ⟨a, b⟩ := rlst_words hH hW hS s1 s2 s3 hH' hW' hsn' hF
    refine ⟨rfl, a, _, f, sz, b.more (by omega) (fun _ e => e), ?_, .inr (.inl ⟨keep_new_pure hs m hv h0 row hr hno, rfl, rfl⟩)⟩
    rw [flat_append]
    simp [flat, Seg.flat]

theorem add_any (S : Nat → Prop) (w : World) (rb : Nat) (ss : List Seg) (sn sz : Nat) (f : Nat → Nat) (row m : Nat) (h : RlSt S w rb ss sn f sz) (hs : Shape ss) (hl : (flat ss).length ≤ 99990) (hsn : sn ≤ 1000000) (hr : row < 4294967296) (hv : okMode m) (h0 : m ≠ 0)
    (hR : ¬ inRuns ss row m) (hL : ¬ inList ss row m) (hf0 : f row = 0) :
    Calls Try.prog 23 #[.pointer (some ⟨rb, 0, none⟩), .int .u32 row, .int .u8 m] w fun e w' => e = .returned (.tuple #[]) ∧ Foot S w w' ∧ ∃ ss' f' sz', RlSt (fun k => S k ∨ w.heap.size ≤ k) w' rb ss' (sn + 1) f' sz' ∧ (flat ss').length ≤ (flat ss).length + 2 ∧ Added ss f sz row m ss' f' sz' := by
  have hst := h
  obtain ⟨⟨sv, mv, hH, hW, hS, s1, s2⟩, s3⟩ := h
  have hG := hs.good (by omega)
  have hm32 := okMode_lt hv
  by_cases hex : ∃ j, ∃ h : j < ss.length, ss[j].mode = m
  · obtain ⟨j, hj, hm⟩ := hex
    have hone := fun i hi e => hs.one j hj m hm i hi e
    have hf32 := (hs.ok _ (List.getElem_mem hj)).first
    have hn1 := hG.small j hj
    obtain ⟨off, ho⟩ : ∃ off, off = offs row ss[j].first := ⟨_, rfl⟩
    have ho' : off = (row + 4294967296 - ss[j].first) % 4294967296 := ho
    by_cases hqn : off / 64 < ss[j].words.length
    · have hgw := gw_word ss j (off / 64) hj hqn
      have hbit : (gw ss[j].words (off / 64)).testBit (off % 64) = false := by
        cases hb : (gw ss[j].words (off / 64)).testBit (off % 64) with
        | false => rfl
        | true => exact absurd ((inRuns_at hs j hj m hm h0 row).2 (by unfold inBits; rw [← ho, hb]; simp [hqn])) hR
      refine (add_in rb row m _ j _ _ _ off _ _ (gw ss[j].words (off / 64)) _ sv mv ss w hG rfl hl hr hm32 hH hW hj hm rfl rfl hone rfl ho' rfl rfl hqn rfl hgw hbit).mono ?_
      rintro e w' ⟨rfl, hH', hW', hF⟩
      rw [flat_set_word ss j hj _ _ _ rfl hqn] at hW'
      obtain ⟨a, b⟩ := rlst_words hH hW hS s1 s2 s3 hH' hW' (fun b hb => .inl hb) (foot_weak hF)
      refine ⟨rfl, a, _, f, sz, b.more (by omega) (fun _ e => e), ?_, .inl ⟨add_in_pure hs j hj m hm h0 row hr off _ _ _ ho rfl rfl hqn rfl hbit, rfl, rfl⟩⟩
      have := flat_set_length ss j hj ⟨ss[j].first, ss[j].mode, ss[j].words.set (off / 64) (gw ss[j].words (off / 64) + 2 ^ (off % 64))⟩
      simp at this
      omega
    · by_cases hA : off / 64 + 1 - ss[j].words.length ≤ 2
      · refine (add_after rb row m _ j _ _ _ off _ _ _ _ _ _ sv mv ss w hG rfl hl hr hm32 hH hW hj hm rfl rfl hone rfl ho' rfl rfl (by omega) rfl hA rfl rfl rfl).mono ?_
        rintro e w' ⟨rfl, sv', hH', hW', hsn', hF⟩
        rw [flat_grow_after ss j hj _ _ _ _ _ (off / 64) _ _ _ rfl rfl rfl rfl (by omega)] at hW'
        obtain ⟨a, b⟩ := rlst_words hH hW hS s1 s2 s3 hH' hW' hsn' hF
        refine ⟨rfl, a, _, f, sz, b.more (by omega) (fun _ e => e), ?_, .inl ⟨add_after_pure hs j hj m hm h0 row hr off _ _ _ _ ho rfl rfl rfl (by omega) (by omega), rfl, rfl⟩⟩
        have := flat_set_length ss j hj ⟨ss[j].first, m, (ss[j].words ++ List.replicate (off / 64 + 1 - ss[j].words.length) 0).set (off / 64) (2 ^ (off % 64))⟩
        simp at this
        omega
      · obtain ⟨d, hd'⟩ : ∃ d, d = (ss[j].first + 4294967296 - row) % 4294967296 := ⟨_, rfl⟩
        obtain ⟨d2, hd2⟩ : ∃ d2, d2 = (d + 63) % 4294967296 := ⟨_, rfl⟩
        have hpos := (hs.ok _ (List.getElem_mem hj)).pos
        by_cases hB : d2 / 64 ≤ 2
        · obtain ⟨B, hBe⟩ : ∃ B, B = d2 / 64 := ⟨_, rfl⟩
          obtain ⟨f2, hf2⟩ : ∃ f2, f2 = (ss[j].first + 4294967296 - B * 64) % 4294967296 := ⟨_, rfl⟩
          obtain ⟨off2, ho2⟩ : ∃ off2, off2 = offs row f2 := ⟨_, rfl⟩
          have ho2' : off2 = (row + 4294967296 - f2) % 4294967296 := ho2
          have hq0 : off2 < 64 := by omega
          refine (add_before rb row m _ j _ _ _ off _ (off2 % 64) B _ _ _ d d2 f2 off2 (off2 / 64) sv mv ss w hG rfl hl hr hm32 hH hW hj hm rfl rfl hone rfl ho' rfl (by omega) hd' hd2 hBe (by omega) (by omega) hf2 ho2' rfl rfl (by omega) rfl rfl rfl).mono ?_
          rintro e w' ⟨rfl, sv', hH', hW', hsn', hF⟩
          rw [flat_grow_before ss j hj _ _ _ _ _ (off2 / 64) _ _ _ rfl rfl rfl rfl (by omega)] at hW'
          obtain ⟨a, b⟩ := rlst_words hH hW hS s1 s2 s3 hH' hW' hsn' hF
          refine ⟨rfl, a, _, f, sz, b.more (by omega) (fun _ e => e), ?_, .inl ⟨add_before_pure hs j hj m hm h0 row hr _ f2 off2 _ _ _ B rfl hf2 ho2 rfl rfl rfl (by omega) (by omega) (by omega), rfl, rfl⟩⟩
          have := flat_set_length ss j hj ⟨f2, m, (List.replicate B 0 ++ ss[j].words).set (off2 / 64) (2 ^ (off2 % 64))⟩
          simp at this
          omega
        · refine add_apart rb row m _ j _ _ _ off _ d d2 _ (fun w' => Foot S w w' ∧ ∃ ss' f' sz', RlSt (fun k => S k ∨ w.heap.size ≤ k) w' rb ss' (sn + 1) f' sz' ∧ (flat ss').length ≤ (flat ss).length + 2 ∧ Added ss f sz row m ss' f' sz') sv mv ss w hG rfl hl hr hm32 hH hW hj hm rfl rfl hone rfl ho' rfl (by omega) hd' hd2 rfl (by omega) (fun w1 F1 => ?_)
          refine (keep_any S w1 rb ss sn sz f row m (hst.kept F1 (fun _ _ e => e)) hs hl hsn hr hv h0 hL hf0).mono ?_
          rintro e w' ⟨rfl, hF, ss', f', sz', b1, b2, b3⟩
          have hsz := F1.size
          refine ⟨rfl, (F1.mono (fun _ _ e => e.elim)).trans hF (fun _ _ e => e), ss', f', sz', b1.more (Nat.le_refl _) (fun k e => ?_), b2, b3⟩
          rcases e with e | e
          · exact .inl e
          · exact .inr (by omega)
  · have hno : ∀ j (hj : j < ss.length), ss[j].mode ≠ m := fun j hj e => hex ⟨j, hj, e⟩
    refine (add_new rb row m _ sv mv ss w hG rfl hl hr hm32 hH hW hno).mono ?_
    rintro e w' ⟨rfl, sv', hH', hW', hsn', hF⟩
    rw [flat_new ss _ _ row m rfl] at hW'
    obtain ⟨a, b⟩ := rlst_words hH hW hS s1 s2 s3 hH' hW' hsn' hF
    refine ⟨rfl, a, _, f, sz, b.more (by omega) (fun _ e => e), ?_, .inl ⟨add_new_pure hs m hv h0 row hr hno, rfl, rfl⟩⟩
    rw [flat_append]
    simp [flat, Seg.flat]
end Go.Proofs.Qxb6605852a
