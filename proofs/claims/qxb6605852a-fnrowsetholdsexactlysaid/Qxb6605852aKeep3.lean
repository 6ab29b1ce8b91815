import Derived.Test.Qxb6605852aMapF
namespace Go.Proofs.Qxb6605852a
open Go.RowKit Go.Shelf
set_option linter.unusedVariables false

/-- The spill: nil, or a map whose entries are the rows that f gives a set of modes. -/
def Spill (w : World) (mv : Value) (n : Nat) (f : Nat → Nat) (sz : Nat) : Prop :=
  (mv = .map none ∧ (∀ r, f r = 0) ∧ sz = 0) ∨ ∃ b, mv = .map (some b) ∧ MapF 50 53 .u32 w b n f (fun r => decide (f r ≠ 0)) sz

def mapBlock? : Value → Option Nat
  | .map (some b) => some b
  | _ => none

theorem spill_kept {S : Nat → Prop} {w w' : World} {mv : Value} {n sz : Nat} {f : Nat → Nat} (h : Spill w mv n f sz) (hf : Foot S w w') (hn : ∀ b, mapBlock? mv = some b → ¬ S b) : Spill w' mv n f sz := by
  rcases h with h | ⟨b, rfl, h⟩
  · exact .inl h
  · exact .inr ⟨b, rfl, h.kept hf (hn b rfl)⟩

theorem RlAt.ne_map {w : World} {rb b n sz : Nat} {sv mv : Value} {f : Nat → Nat} {hs : Nat → Bool} {T E : TypeId} {q : IntKind} (h : RlAt w rb sv mv) (hm : MapF T E q w b n f hs sz) : rb ≠ b := by
  rintro rfl
  obtain ⟨es, c, hm⟩ := hm.is_map
  unfold RlAt at h
  rw [h] at hm
  simp at hm

theorem RowAt.ne_map {w : World} {g b n sz : Nat} {zs : List Nat} {f : Nat → Nat} {hs : Nat → Bool} {T E : TypeId} {q : IntKind} (h : RowAt w g zs) (hm : MapF T E q w b n f hs sz) : g ≠ b := by
  rintro rfl
  obtain ⟨es, c, hm⟩ := hm.is_map
  unfold RowAt at h
  rw [h] at hm
  simp at hm

theorem wrap32_pow (m : Nat) (hm : m < 32) : IntKind.u32.wrap ((2 : Int) ^ m) = ((2 ^ m : Nat) : Int) := by
  have h1 : (2 : Nat) ^ m ≤ 2 ^ 31 := Nat.pow_le_pow_right (by omega) (by omega)
  have h2 : (2 : Nat) ^ 31 = 2147483648 := by decide
  have e : ((2 : Int) ^ m) = ((2 ^ m : Nat) : Int) := by simp
  rw [e, IntKind.wrap_u32]
  generalize (2 : Nat) ^ m = y at h1 ⊢
  omega
theorem pow_lt32 (m : Nat) (hm : m < 32) : 2 ^ m < 4294967296 := by
  have h1 : (2 : Nat) ^ m ≤ 2 ^ 31 := Nat.pow_le_pow_right (by omega) (by omega)
  have h2 : (2 : Nat) ^ 31 = 2147483648 := by decide
  omega
theorem or32_zero (m : Nat) (hm : m < 32) : bits .or .u32 0 (IntKind.u32.wrap ((2 : Int) ^ m)) = ((2 ^ m : Nat) : Int) := by
  rw [wrap32_pow m hm]
  have := u32_or_nat 0 (2 ^ m) (by omega) (pow_lt32 m hm)
  simpa using this

theorem eq_nil_map (w : World) : (binOp .eql 50 (.map none) (.map none)).run Try.prog w = .ok (.bool true) w := by kernel_rfl
theorem eq_some_map (b : Nat) (w : World) : (binOp .eql 50 (.map (some b)) (.map none)).run Try.prog w = .ok (.bool false) w := by kernel_rfl

set_option maxHeartbeats 1000000 in
theorem keep_spill (rb row m L j I n sn sz : Nat) (sv mv : Value) (ss : List Seg) (f : Nat → Nat) (w : World) (hG : Good ss) (hL : (flat ss).length = L) (hl : L ≤ 99990) (hr : row < 4294967296) (hm : m < 32) (hH : RlAt w rb sv mv) (hW : Words w sv (flat ss)) (hS : Spill w mv sn f sz) (hsn : sn ≤ 1000000) (hf0 : f row = 0)
    (hj : j < ss.length) (hmj : ss[j].mode = 0) (hI : hix ss j = I) (hn : ss[j].words.length = n) (hn16 : ¬ n < 16) (hone : ∀ i (h : i < ss.length), ss[i].mode = 0 → i = j) :
    Calls Try.prog 34 #[.pointer (some ⟨rb, 0, none⟩), .int .u32 row, .int .u8 m] w fun e w' => e = .returned (.tuple #[]) ∧ ∃ mv', RlAt w' rb sv mv' ∧ Words w' sv (flat ss) ∧ Spill w' mv' (sn + 1) (upd f row (2 ^ m)) (sz + 1) ∧ (∀ b, mapBlock? mv' = some b → mapBlock? mv = some b ∨ w.heap.size ≤ b) ∧ Foot (fun k => k = rb ∨ mapBlock? mv = some k) w w' := by
  have HH : Hid (RlAt w rb sv mv) := hH
  have HW : Hid (Words w sv (flat ss)) := hW
  have HS : Hid (Spill w mv sn f sz) := hS
  obtain ⟨p, g, cap, hsv, hR⟩ := reads_of hH hW
  rw [hL] at hsv
  clear hH hW hS
  have HN : Hid (∀ i (h : i < ss.length), ss[i].mode = 0 → i = j) := hone
  clear hone
  obtain ⟨X, HX⟩ : ∃ X : Nat, Hid (X = 2 ^ m) := ⟨2 ^ m, show 2 ^ m = 2 ^ m from rfl⟩
  rw [← HX.out]
  have hor : bits .or .u32 0 (IntKind.u32.wrap ((2 : Int) ^ m)) = (X : Int) := by rw [HX.out]; exact or32_zero m hm
  have hor2 : bits .or .u32 0 ((2 : Int) ^ m % 4294967296) = (X : Int) := by have h := hor; rw [IntKind.wrap_u32] at h; exact h
  have HXW : Hid ((Lit.int .u32 (X : Int)).wf = true) := by rw [HX.out]; exact wf_u32 (pow_lt32 m hm)
  have HF0 : Hid (f row = 0) := hf0
  have hnI : ¬ (n : Int) < 16 := by omega
  have hnI2 : (n : Int) ≤ 100000 := by have := hix_le ss j hj; omega
  go_enter Try.func34, Try.ntmps34
  go_wp2_with fail
  refine (runOf_any rb g cap 0 p ss hG (by omega) w hR).mono ?_
  rintro e w1 ⟨⟨r, hr1, rfl⟩, hB1⟩
  have hrm : r = (I : Int) := by
    rcases hr1 with ⟨_, h⟩ | ⟨i, h, h0, h1⟩
    · exact absurd hmj (h j hj)
    · obtain rfl := HN.out i h h1
      rw [h0, hI]
  subst hrm
  clear hr1
  have F1 : Foot (fun _ => False) w w1 := Foot.of_below hB1
  have hR1 := hR.below hB1
  have hrun := run_seg hR1 hG j hj
  rw [hI, hmj, hn] at hrun
  have hI0 : ¬ ((I : Int) < 0) := by omega
  go_wp2_with fail
  refine hrun.mono ?_
  rintro e w1' ⟨rfl, nd, rfl⟩
  have F1' : Foot (fun _ => False) w (w1.drewN nd) := F1.trans (Foot.drewN _ _ _) (fun _ _ e => e)
  clear hrun hR1 hB1 F1
  generalize w1.drewN nd = w1 at F1' ⊢
  have HH1 : Hid (RlAt w1 rb sv mv) := HH.out.kept F1' id
  have HW1 : Hid (Words w1 sv (flat ss)) := words_kept HW.out F1' (fun _ _ => id)
  have HS1 : Hid (Spill w1 mv sn f sz) := spill_kept HS.out F1' (fun _ _ => id)
  have c1 := HH1.out.c1
  have f1 := HH1.out.fz 1
  rcases HS1.out with ⟨rfl, hz, rfl⟩ | ⟨b, rfl, hM⟩
  · have hmk := @run_makeMap Try.prog
    have heq := eq_nil_map
    have HM0 : Hid (MapF 50 53 .u32 (w1.alloc (.map #[] 0)) w1.heap.size 0 (fun _ => 0) (fun _ => false) 0) := MapF.made w1
    have FA : Foot (fun _ => False) w1 (w1.alloc (.map #[] 0)) := Foot.of_below ((Below.refl _ _).alloc (Nat.le_refl _) _)
    have HHA : Hid (RlAt (w1.alloc (.map #[] 0)) rb sv (.map none)) := HH1.out.kept FA id
    have cA := HHA.out.c1
    have fA := HHA.out.fz 1
    have HHB : Hid (RlAt ((w1.alloc (.map #[] 0)).setCell ⟨rb, 1, none⟩ (.map (some w1.heap.size))) rb sv (.map (some w1.heap.size))) := HHA.out.set1 _
    have FB : Foot (fun k => k = rb) (w1.alloc (.map #[] 0)) ((w1.alloc (.map #[] 0)).setCell ⟨rb, 1, none⟩ (.map (some w1.heap.size))) := Foot.setCell _ ⟨rb, 1, none⟩ _
    have cB := HHB.out.c1
    have HMB : Hid (MapF 50 53 .u32 ((w1.alloc (.map #[] 0)).setCell ⟨rb, 1, none⟩ (.map (some w1.heap.size))) w1.heap.size 0 (fun _ => 0) (fun _ => false) 0) := HM0.out.kept FB (fun e => by have := HH1.out.lt; omega)
    have hlook : (Instr.lookup 50 (.map (some w1.heap.size)) (.int .u32 (row : Int)) false).run Try.prog ((w1.alloc (.map #[] 0)).setCell ⟨rb, 1, none⟩ (.map (some w1.heap.size))) = .ok (.int .u32 0) ((w1.alloc (.map #[] 0)).setCell ⟨rb, 1, none⟩ (.map (some w1.heap.size))) := HMB.out.look u50 u53 (zero53 _) row hr
    obtain ⟨w2, hput, hM2, F2⟩ := HMB.out.put u50 u53 (by unfold maxLen; omega) row X hr HXW.out
    have HM2 : Hid (MapF 50 53 .u32 w2 w1.heap.size (0 + 1) (upd (fun _ => 0) row X) (upd (fun _ => false) row true) (if false = true then 0 else 0 + 1)) := hM2
    clear hM2
    go_wp2
    go_end0
    have F12 : Foot (fun k => k = rb) w1 ((w1.alloc (.map #[] 0)).setCell ⟨rb, 1, none⟩ (.map (some w1.heap.size))) := (FA.mono (fun _ _ e => e.elim)).trans FB (fun _ _ e => e)
    have F13 : Foot (fun k => k = rb ∨ mapBlock? (.map none) = some k) w1 w2 := (F12.mono (fun _ _ e => .inl e)).trans F2 (fun i hi e => by omega)
    refine ⟨rfl, .map (some w1.heap.size), HHB.out.kept F2 (fun e => by have := HH1.out.lt; omega), ?_, .inr ⟨_, rfl, ?_⟩, fun b hb => ?_, (F1'.mono (fun _ _ e => e.elim)).trans F13 (fun _ _ e => e)⟩
    · refine words_kept HW1.out F13 (fun b hb e => ?_)
      rcases e with e | e
      · exact HH1.out.ne_words HW1.out hb e.symm
      · simp [mapBlock?] at e
    · have h := HM2.out.mono (n' := sn + 1) (by omega)
      have e1 : (upd (fun _ => 0) row X) = upd f row X := by
        funext i
        simp only [upd, hz i]
      have e2 : (upd (fun _ => false) row true) = fun r => decide (upd f row X r ≠ 0) := by
        funext i
        have hX0 : X ≠ 0 := by rw [HX.out]; exact Nat.ne_of_gt (Nat.pow_pos (by omega))
        by_cases hi : i = row
        · simp [upd, hi, hX0]
        · simp [upd, hi, hz i]
      rw [e1, e2] at h
      simpa using h
    · right
      simp [mapBlock?] at hb
      have := F1'.size
      omega
  · have heq := eq_some_map
    have hlook := hM.look u50 u53 (zero53 _) row hr
    rw [HF0.out] at hlook
    obtain ⟨w2, hput, hM2, F2⟩ := hM.put u50 u53 (by unfold maxLen; omega) row X hr HXW.out
    have hlook' : (Instr.lookup 50 (.map (some b)) (.int .u32 (row : Int)) false).run Try.prog w1 = .ok (.int .u32 0) w1 := hlook
    clear hlook
    have HM2 : Hid (MapF 50 53 .u32 w2 b (sn + 1) (upd f row X) (upd (fun r => decide (f r ≠ 0)) row true) (if decide (f row ≠ 0) = true then sz else sz + 1)) := hM2
    clear hM2
    have HM : Hid (MapF 50 53 .u32 w1 b sn f (fun r => decide (f r ≠ 0)) sz) := hM
    clear hM
    go_wp2
    go_end0
    have F13 : Foot (fun k => k = rb ∨ mapBlock? (.map (some b)) = some k) w1 w2 := F2.mono (fun i hi e => .inr (by simp [mapBlock?, e]))
    refine ⟨rfl, .map (some b), HH1.out.kept F2 (HH1.out.ne_map HM.out), ?_, .inr ⟨_, rfl, ?_⟩, fun b' hb => .inl hb, (F1'.mono (fun _ _ e => e.elim)).trans F13 (fun _ _ e => e)⟩
    · refine words_kept HW1.out F2 (fun k hk e => ?_)
      subst e
      rcases HW1.out with ⟨rfl, _⟩ | ⟨g', zs, rfl, hR', _⟩
      · simp [Value.ownBlock] at hk
      · simp [Value.ownBlock] at hk
        subst hk
        exact hR'.ne_map HM.out rfl
    · have h := HM2.out
      have e2 : (upd (fun r => decide (f r ≠ 0)) row true) = fun r => decide (upd f row X r ≠ 0) := by
        funext i
        have hX0 : X ≠ 0 := by rw [HX.out]; exact Nat.ne_of_gt (Nat.pow_pos (by omega))
        by_cases hi : i = row
        · simp [upd, hi, hX0]
        · simp [upd, hi]
      rw [e2, HF0.out] at h
      simpa using h
end Go.Proofs.Qxb6605852a
