import Derived.Test.Qxb6605852aDropP
import Derived.Test.Qxb6605852aDrop1
import Derived.Test.Qxb6605852aDrop2
import Derived.Test.Qxb6605852aDrop4
import Derived.Test.Qxb6605852aDrop5
namespace Go.Proofs.Qxb6605852a
open Go.RowKit Go.Shelf
set_option linter.unusedVariables false

/-- A rowLocks in memory: its block, its words' row, its spill; S: the blocks that may be its own. -/
structure RlSt (S : Nat → Prop) (w : World) (rb : Nat) (ss : List Seg) (sn : Nat) (f : Nat → Nat) (sz : Nat) : Prop where
  ex : ∃ sv mv, RlAt w rb sv mv ∧ Words w sv (flat ss) ∧ Spill w mv sn f sz ∧ (∀ b, sv.ownBlock = some b → S b) ∧ (∀ b, mapBlock? mv = some b → S b)
  own : S rb

def DroppedRun (ss ss' : List Seg) (row m : Nat) : Prop :=
  Shape ss' ∧ (∀ r md, r < 4294967296 → (inRuns ss' r md ↔ inRuns ss r md ∧ ¬ (r = row ∧ md = m))) ∧ (∀ r md, inList ss' r md ↔ inList ss r md) ∧ total ss' + 1 = total ss
def DroppedList (ss ss' : List Seg) (row m : Nat) : Prop :=
  Shape ss' ∧ (∀ r md, inRuns ss' r md ↔ inRuns ss r md) ∧ (∀ r md, r < 4294967296 → (inList ss' r md ↔ inList ss r md ∧ ¬ (r = row ∧ md = m))) ∧ total ss' + 1 = total ss

def Dropped (ss : List Seg) (f : Nat → Nat) (sz row m : Nat) (ss' : List Seg) (f' : Nat → Nat) (sz' : Nat) : Prop :=
  (inRuns ss row m ∧ DroppedRun ss ss' row m ∧ f' = f ∧ sz' = sz) ∨
  (¬ inRuns ss row m ∧ inList ss row m ∧ DroppedList ss ss' row m ∧ f' = f ∧ sz' = sz) ∨
  (¬ inRuns ss row m ∧ ¬ inList ss row m ∧ ss' = ss ∧ f row = 2 ^ m ∧ f' = upd f row 0 ∧ sz' = sz - 1)

/-- The words have turned; the spill stands. -/
theorem rlst_words {S : Nat → Prop} {w w' : World} {rb sn sz : Nat} {sv sv' mv : Value} {ss ss' : List Seg} {f : Nat → Nat} (hH : RlAt w rb sv mv) (hW : Words w sv (flat ss)) (hS : Spill w mv sn f sz)
    (s1 : ∀ b, sv.ownBlock = some b → S b) (s2 : ∀ b, mapBlock? mv = some b → S b) (s3 : S rb)
    (hH' : RlAt w' rb sv' mv) (hW' : Words w' sv' (flat ss')) (hsn : SameOrNew w sv sv') (hF : Foot (fun k => k = rb ∨ sv.ownBlock = some k) w w') :
    Foot S w w' ∧ RlSt (fun k => S k ∨ w.heap.size ≤ k) w' rb ss' sn f sz := by
  refine ⟨hF.mono (fun i _ e => ?_), ⟨sv', mv, hH', hW', ?_, fun b hb => ?_, fun b hb => .inl (s2 b hb)⟩, .inl s3⟩
  · rcases e with rfl | e
    · exact s3
    · exact s1 i e
  · refine spill_kept hS hF (fun b hb e => ?_)
    rcases hS with ⟨rfl, _⟩ | ⟨b', rfl, hM⟩
    · simp [mapBlock?] at hb
    · simp only [mapBlock?, Option.some.injEq] at hb
      subst hb
      rcases e with e | e
      · exact hH.ne_map hM e.symm
      · rcases hW with ⟨rfl, _⟩ | ⟨g', zs, rfl, hR', _⟩
        · simp [Value.ownBlock] at e
        · simp only [Value.ownBlock, Option.some.injEq] at e
          subst e
          exact hR'.ne_map hM rfl
  · rcases hsn b hb with h | h
    · exact .inl (s1 b h)
    · exact .inr h

theorem foot_weak {sv : Value} {rb : Nat} {w w' : World} (h : Foot (fun k => sv.ownBlock = some k) w w') : Foot (fun k => k = rb ∨ sv.ownBlock = some k) w w' := h.mono (fun _ _ e => .inr e)

theorem flat_set_length (ss : List Seg) (j : Nat) (hj : j < ss.length) (s' : Seg) : (flat (ss.set j s')).length + ss[j].words.length = (flat ss).length + s'.words.length := by
  obtain ⟨A, D, hA, e1, e2, _⟩ := flat_parts ss j hj
  rw [e1, e2]
  simp
  omega

theorem flat_erase_length (ss : List Seg) (j : Nat) (hj : j < ss.length) : (flat (ss.eraseIdx j)).length ≤ (flat ss).length := by
  obtain ⟨A, D, hA, e1, _, e3⟩ := flat_parts ss j hj
  rw [e1, e3]
  simp
  omega

theorem drop_any (S : Nat → Prop) (w : World) (rb : Nat) (ss : List Seg) (sn sz : Nat) (f : Nat → Nat) (row m : Nat) (h : RlSt S w rb ss sn f sz) (hs : Shape ss) (hl : (flat ss).length ≤ 99990) (hsz : sz ≤ 1000000) (hr : row < 4294967296) (hv : okMode m) (h0 : m ≠ 0)
    (hfz : ∀ r, 4294967296 ≤ r → f r = 0) (hheld : inRuns ss row m ∨ inList ss row m ∨ f row = 2 ^ m) :
    Calls Try.prog 22 #[.pointer (some ⟨rb, 0, none⟩), .int .u32 row, .int .u8 m] w fun e w' => e = .returned (.tuple #[]) ∧ Foot S w w' ∧ ∃ ss' f' sz', RlSt (fun k => S k ∨ w.heap.size ≤ k) w' rb ss' sn f' sz' ∧ (flat ss').length ≤ (flat ss).length ∧ Dropped ss f sz row m ss' f' sz' := by
  obtain ⟨⟨sv, mv, hH, hW, hS, s1, s2⟩, s3⟩ := h
  have hG := hs.good (by omega)
  have hm32 := okMode_lt hv
  by_cases hR : inRuns ss row m
  · obtain ⟨s, hs1, hs2, _, hs4⟩ := hR
    have hR : inRuns ss row m := ⟨s, hs1, hs2, h0, hs4⟩
    obtain ⟨j, hj, rfl⟩ := mem_at hs1
    have hbits := hs4
    unfold inBits at hbits
    simp only [Bool.and_eq_true, decide_eq_true_eq] at hbits
    obtain ⟨hq, hbit⟩ := hbits
    have hgw := gw_word ss j (offs row ss[j].first / 64) hj hq
    cases hleft : (ss[j].words.set (offs row ss[j].first / 64) (gw ss[j].words (offs row ss[j].first / 64) - 2 ^ (offs row ss[j].first % 64))).any (fun x => decide (x ≠ 0)) with
    | true =>
      refine (drop_bit rb row m _ j _ _ _ (offs row ss[j].first) _ _ (gw ss[j].words (offs row ss[j].first / 64)) _ sv mv ss w hG rfl hl hr hm32 hH hW hj hs2 rfl rfl (fun i hi e => hs.one j hj m hs2 i hi e) rfl rfl rfl rfl hq rfl hgw hbit hleft).mono ?_
      rintro e w' ⟨rfl, hH', hW', hF⟩
      rw [flat_set_word ss j hj _ _ _ rfl hq] at hW'
      obtain ⟨a, b⟩ := rlst_words hH hW hS s1 s2 s3 hH' hW' (fun b hb => .inl hb) (foot_weak hF)
      refine ⟨rfl, a, _, f, sz, b, ?_, .inl ⟨hR, drop_bit_pure hs j hj m hs2 h0 row hr _ _ _ _ rfl rfl rfl hq rfl hbit hleft, rfl, rfl⟩⟩
      have := flat_set_length ss j hj ⟨ss[j].first, ss[j].mode, ss[j].words.set (offs row ss[j].first / 64) (gw ss[j].words (offs row ss[j].first / 64) - 2 ^ (offs row ss[j].first % 64))⟩
      simp at this
      omega
    | false =>
      refine (drop_last rb row m _ j _ _ _ (offs row ss[j].first) _ _ (gw ss[j].words (offs row ss[j].first / 64)) _ sv mv ss w hG rfl hl hr hm32 hH hW hj hs2 rfl rfl (fun i hi e => hs.one j hj m hs2 i hi e) rfl rfl rfl rfl hq rfl hgw hbit hleft).mono ?_
      rintro e w' ⟨rfl, sv', hH', hW', hsn, hF⟩
      rw [flat_erase_set ss j hj _ _ _ _ rfl rfl (by omega) (by omega)] at hW'
      obtain ⟨a, b⟩ := rlst_words hH hW hS s1 s2 s3 hH' hW' hsn hF
      exact ⟨rfl, a, _, f, sz, b, flat_erase_length ss j hj, .inl ⟨hR, drop_last_pure hs j hj m hs2 h0 row hr _ _ _ _ rfl rfl rfl hq rfl hbit hleft, rfl, rfl⟩⟩
  · have hfirst : (∀ j (h : j < ss.length), ss[j].mode ≠ m) ∨ ∃ j, ∃ h : j < ss.length, ss[j].mode = m ∧ (∀ i (h : i < ss.length), ss[i].mode = m → i = j) ∧ inBits ss[j].words ((row + 4294967296 - ss[j].first) % 4294967296) = false := by
      by_cases hex : ∃ j, ∃ h : j < ss.length, ss[j].mode = m
      · obtain ⟨j, hj, hm⟩ := hex
        refine .inr ⟨j, hj, hm, fun i hi e => hs.one j hj m hm i hi e, ?_⟩
        cases hb : inBits ss[j].words ((row + 4294967296 - ss[j].first) % 4294967296) with
        | false => rfl
        | true => exact absurd ⟨ss[j], List.getElem_mem hj, hm, h0, hb⟩ hR
      · exact .inl (fun j hj e => hex ⟨j, hj, e⟩)
    by_cases hL : inList ss row m
    · obtain ⟨s, hs1, hs2, hs3⟩ := hL
      have hL : inList ss row m := ⟨s, hs1, hs2, hs3⟩
      obtain ⟨j, hj, rfl⟩ := mem_at hs1
      by_cases hn1 : ss[j].words.length = 1
      · refine (drop_list1 rb row m _ j _ _ sv mv ss w hG rfl hl hr hm32 hH hW hfirst hj hs2 rfl rfl (fun i hi e => hs.one j hj 0 hs2 i hi e) hs3 hn1).mono ?_
        rintro e w' ⟨rfl, sv', hH', hW', hsn, hF⟩
        have hfe := flat_erase ss j hj 1 _ hn1 rfl
        rw [show hix ss j + 1 + 1 = hix ss j + 2 by omega] at hfe
        rw [hfe] at hW'
        obtain ⟨a, b⟩ := rlst_words hH hW hS s1 s2 s3 hH' hW' hsn hF
        exact ⟨rfl, a, _, f, sz, b, flat_erase_length ss j hj, .inr (.inl ⟨hR, hL, drop_list1_pure hs j hj hs2 row m hr hn1 hs3, rfl, rfl⟩)⟩
      · refine (drop_list rb row m _ j _ _ sv mv ss w hG rfl hl hr hm32 hH hW hfirst hj hs2 rfl rfl (fun i hi e => hs.one j hj 0 hs2 i hi e) hs3 hn1).mono ?_
        rintro e w' ⟨rfl, sv', kk, hkk, hgk, hH', hW', hsn, hF⟩
        rw [flat_list_drop ss j hj _ _ kk rfl rfl hkk] at hW'
        obtain ⟨a, b⟩ := rlst_words hH hW hS s1 s2 s3 hH' hW' hsn hF
        refine ⟨rfl, a, _, f, sz, b, ?_, .inr (.inl ⟨hR, hL, drop_list_pure hs j hj hs2 row m hr kk hkk hn1 hgk, rfl, rfl⟩)⟩
        have := flat_set_length ss j hj ⟨0, 0, ss[j].words.eraseIdx kk⟩
        have h2 : (ss[j].words.eraseIdx kk).length = ss[j].words.length - 1 := by rw [List.length_eraseIdx]; simp [hkk]
        simp only [h2] at this
        omega
    · have hfr : f row = 2 ^ m := by
        rcases hheld with h | h | h
        · exact absurd h hR
        · exact absurd h hL
        · exact h
      have hlist : (∀ j (h : j < ss.length), ss[j].mode ≠ 0) ∨ ∃ j, ∃ h : j < ss.length, ss[j].mode = 0 ∧ (∀ i (h : i < ss.length), ss[i].mode = 0 → i = j) ∧ lw row m ∉ ss[j].words := by
        by_cases hex : ∃ j, ∃ h : j < ss.length, ss[j].mode = 0
        · obtain ⟨j, hj, hm⟩ := hex
          exact .inr ⟨j, hj, hm, fun i hi e => hs.one j hj 0 hm i hi e, fun hb => hL ⟨ss[j], List.getElem_mem hj, hm, hb⟩⟩
        · exact .inl (fun j hj e => hex ⟨j, hj, e⟩)
      refine (drop_spill rb row m _ sn sz sv mv ss f w hG rfl hl hr hm32 hH hW hfirst hlist hS hsz hfr hfz).mono ?_
      rintro e w' ⟨rfl, mv', hH', hW', hS', hmb, hF⟩
      refine ⟨rfl, hF.mono (fun i _ e => ?_), ss, upd f row 0, sz - 1, ⟨⟨sv, mv', hH', hW', hS', fun b hb => .inl (s1 b hb), fun b hb => .inl (s2 b (hmb b hb))⟩, .inl s3⟩, Nat.le_refl _, .inr (.inr ⟨hR, hL, rfl, hfr, rfl, rfl⟩)⟩
      rcases e with rfl | e
      · exact s3
      · exact s2 i e
end Go.Proofs.Qxb6605852a
