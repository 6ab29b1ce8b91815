import Derived.Test.Qxb6605852aSmall
import Derived.Test.Qxb6605852aCopy
import Derived.Deep.RegionLaw
import Derived.Deep.RegionHeld3
import Derived.Maps.RangeWalk
namespace Go.Proofs.Qxb6605852a
open Go.RowKit
set_option linter.unusedVariables false

/-- k zero words put in at place i. -/
def ins (ws : List Nat) (i k : Nat) : List Nat := ws.take i ++ (List.replicate k 0 ++ ws.drop i)

theorem ins_length (ws : List Nat) (i k : Nat) (h : i ≤ ws.length) : (ins ws i k).length = ws.length + k := by simp [ins]; omega

theorem ret_slice {a : Option Addr} {n c c' : Nat} (h : c = c') : Ending.returned (.slice a n c) = .returned (.slice a n c') := by rw [h]

theorem below_grown {B g : Nat} {w w' : World} (hB : B ≤ w.heap.size) (h : w.grownBy w' (some g)) (hg : B ≤ g) : Below B w w' :=
  (Below.refl B w).grown h hB (fun k e => by cases e; exact hg)

theorem ins_two (ws : List Nat) (i k c N P : Nat) (X1 X2 : List Nat) (h1 : X1 = ws.take i) (h2 : X2 = ws.drop i) (hi : i ≤ ws.length) (hP : P = i + k) (hN : N = ws.length + k) (hc : N ≤ c) :
    (splice (splice (List.replicate c 0) 0 X1) P X2).take N = ins ws i k := by
  have l1 : X1.length = i := by rw [h1]; simp; omega
  have l2 : X2.length = ws.length - i := by rw [h2]; simp
  have e1 : splice (List.replicate c 0) 0 X1 = X1 ++ List.replicate (c - i) 0 := by
    simp [splice, l1]
  have e2 : (X1 ++ List.replicate (c - i) 0).take P = X1 ++ List.replicate k 0 := by
    rw [List.take_append, l1, List.take_of_length_le (by omega), List.take_replicate]
    congr 2
    omega
  rw [e1]
  unfold splice
  rw [e2, List.append_assoc, List.take_append, List.take_of_length_le (by omega), l1, List.take_append, List.length_replicate, List.take_of_length_le (by simp; omega), List.take_append, l2, List.take_of_length_le (by omega)]
  rw [show N - i - k - (ws.length - i) = 0 by omega, List.take_zero, List.append_nil, h1, h2]
  rfl

set_option maxHeartbeats 600000 in
theorem insert_grow (g i k N cap : Nat) (ws : List Nat) (w : World) (hg : g < w.heap.size) (hl : ws.length ≤ 100000) (hcap : ws.length ≤ cap) (hi : i ≤ ws.length) (hk1 : 1 ≤ k) (hk2 : k ≤ 2) (hN : N = ws.length + k) (hbig : cap < N)
    (hc : ∀ j, j < ws.length → w.cell? ⟨g, j, none⟩ = some (.int .u64 (gw ws j : Nat))) :
    Calls Try.prog 33 #[.slice (some ⟨g, 0, none⟩) ws.length cap, .int .i64 i, .int .i64 k] w fun e w' => ∃ zs, e = .returned (.slice (some ⟨w.heap.size, 0, none⟩) N zs.length) ∧ RowAt w' w.heap.size zs ∧ zs.take N = ins ws i k ∧ N ≤ zs.length ∧ zs.length ≤ 400000 ∧ Below w.heap.size w w' := by
  have eN : (ws.length : Int) + (k : Int) = (N : Int) := by omega
  have hb1 : (cap : Int) < (N : Int) := by omega
  have HN : Hid (N = ws.length + k) := hN
  have HC : Hid (∀ j, j < ws.length → w.cell? ⟨g, j, none⟩ = some (.int .u64 (gw ws j : Nat))) := hc
  have hii : (i : Int) ≤ (ws.length : Int) := by omega
  have hik : (i : Int) + (k : Int) ≤ (N : Int) := by omega
  have hN2 : (N : Int) ≤ 100002 := by omega
  have hicap : (i : Int) ≤ (cap : Int) := by omega
  clear hN hc
  go_enter Try.func33, Try.ntmps33
  go_wp2_with fail
  refine (slotsAtLeast_any N (by omega) (by omega) w).mono ?_
  rintro e w' ⟨⟨c, hc1, hc2, rfl⟩, hw⟩
  obtain rfl := hw.symm
  have hmk := fun w => make_any N c hc1 (by omega) w
  have hNc : (N : Int) ≤ (c : Int) := by omega
  have hc3 : (c : Int) ≤ 400000 := by omega
  obtain ⟨X1, HX1⟩ : ∃ X1, Hid (X1 = ws.take i) := ⟨_, rfl⟩
  obtain ⟨X2, HX2⟩ : ∃ X2, Hid (X2 = ws.drop i) := ⟨_, rfl⟩
  have hx1 : X1.length = i := by rw [HX1.out]; simp; omega
  have hx2 : X2.length = ws.length - i := by rw [HX2.out]; simp
  have HX1L : Hid (X1.length = i) := hx1
  have HX2L : Hid (X2.length = ws.length - i) := hx2
  clear hx1 hx2
  have HCA : Hid (∀ j, j < X1.length → (w.alloc (.cells (zrow c) 42)).cell? ⟨g, 0 + j, none⟩ = some (.int .u64 (gw X1 j : Nat))) := by
    intro j hj
    have h1 := HX1L.out
    rw [World.cell?_alloc_lt _ _ _ hg, Nat.zero_add, HC.out j (by omega), HX1.out, gw_take (by omega)]
  go_wp2_with (refine wpList_copyW rfl (.tmp 21) (.tmp 24) 38 38 rfl 42 Try.underlying38 (by kernel_rfl) _ _ _ _ _ _ rfl rfl w.heap.size 0 (List.replicate c 0) (rowAt_new w c) X1 (by rw [HX1L.out]; show i = min i N; omega) (fun _ => ⟨rfl, g, 0, rfl, HCA.out⟩) (by rw [HX1L.out]; simp; omega) ?_; intro w2 R2 G2)
  go_frame
  have RZ : RowAt w2 w.heap.size (splice (List.replicate c 0) 0 X1) := R2.out
  have HCB : Hid (∀ j, j < X2.length → w2.drew.cell? ⟨g, i + j, none⟩ = some (.int .u64 (gw X2 j : Nat))) := by
    intro j hj
    have h1 := HX2L.out
    have h2 : w2.drew.cell? ⟨g, i + j, none⟩ = w.cell? ⟨g, i + j, none⟩ := by
      rw [World.cell?_drew, World.cell?_of_block (w := w.alloc (.cells (zrow c) 42)) (G2.block g (by simp; omega) (by simp; omega)), World.cell?_alloc_lt _ _ _ hg]
    rw [h2, HC.out (i + j) (by omega), HX2.out, gw_drop]
  obtain ⟨P, HP⟩ : ∃ P : Nat, Hid (P = i + k) := ⟨_, rfl⟩
  have ew : IntKind.i64.wrap ((i : Int) + (k : Int)) = (P : Int) := by have := HP.out; rw [IntKind.wrap_i64]; omega
  have hP0 : (0 : Int) ≤ (P : Int) := by omega
  have hP1 : (P : Int) ≤ (N : Int) := by have := HP.out; omega
  have HI : Hid (X2.length = Nat.min (ws.length - i) (N - P)) := by
    have h1 := HX2L.out; have h2 := HP.out; have h3 := HN.out
    show X2.length = min (ws.length - i) (N - P)
    omega
  have HF : Hid (P + X2.length ≤ (splice (List.replicate c 0) 0 X1).length) := by
    have h1 := HX2L.out; have h2 := HP.out; have h3 := HN.out; have h4 := HX1L.out
    show _ ≤ _
    rw [length_splice _ _ _ (by simp; omega)]
    simp
    omega
  have HPO : Hid (0 < X2.length → (if c = P then some (⟨w.heap.size, 0, none⟩ : Addr) else some ⟨w.heap.size, P, none⟩) = some ⟨w.heap.size, P, none⟩ ∧ ∃ b o, (if cap = i then some (⟨g, 0, none⟩ : Addr) else some ⟨g, i, none⟩) = some ⟨b, o, none⟩ ∧ ∀ j, j < X2.length → w2.drew.cell? ⟨b, o + j, none⟩ = some (.int .u64 (gw X2 j : Nat))) := by
    intro hpos
    have h1 := HX2L.out; have h2 := HP.out; have h3 := HN.out
    exact ⟨by rw [if_neg (by omega)], g, i, by rw [if_neg (by omega)], HCB.out⟩
  go_region_held3 (fun _ => True) (trivial) (first | (refine step_copyW rfl (.tmp 30) (.tmp 33) 38 38 rfl 42 Try.underlying38 (by kernel_rfl) _ _ _ _ _ _ rfl rfl w.heap.size P (splice (List.replicate c 0) 0 X1) RZ X2 HI.out HPO.out HF.out ?_; intro w3 R3 G3))
  all_goals go_wp2
  all_goals
    go_ret
    have RF : RowAt w3 w.heap.size (splice (splice (List.replicate c 0) 0 X1) P X2) := R3.out
    have hlen : (splice (splice (List.replicate c 0) 0 X1) P X2).length = c := by
      rw [length_splice _ _ _ HF.out, length_splice _ _ _ (by have := HX1L.out; simp; omega)]
      simp
    have hres := ins_two ws i k c N P X1 X2 HX1.out HX2.out hi HP.out HN.out (by omega)
    have hbel : Below w.heap.size w w3 := ((Below.refl _ _).alloc (Nat.le_refl _) (.cells (zrow c) 42)).trans (((below_grown (by simp) G2 (Nat.le_refl _)).drew).trans (below_grown (by have := G2.size; simp at this; show w.heap.size ≤ w2.heap.size; omega) G3 (Nat.le_refl _)))
    exact ⟨_, ret_slice (by omega), RF, hres, by omega, by omega, hbel⟩

/-- k words set to zero from place off on. -/
def zeroAt : List Nat → Nat → Nat → List Nat
  | zs, _, 0 => zs
  | zs, off, k + 1 => zeroAt (zs.set off 0) (off + 1) k

theorem grownBy_setCells {g : Nat} (k : Nat) : ∀ (w : World) (off : Nat), w.grownBy (w.setCells g off (List.replicate k (.int .u64 0))) (some g) := by
  induction k with
  | zero => intro w off; exact World.grownBy.refl _ _
  | succ k ih =>
    intro w off
    rw [List.replicate_succ]
    have h1 : w.grownBy (w.setCell ⟨g, off, none⟩ (.int .u64 0)) (some g) := ⟨rfl, rfl, rfl, by simp [World.setCell], fun j _ hne => heap_setCell_ne _ _ _ _ (fun e => hne (by rw [← e]))⟩
    have h2 := ih (w.setCell ⟨g, off, none⟩ (.int .u64 0)) (off + 1)
    exact ⟨h2.os.trans h1.os, h2.tape.trans h1.tape, h2.output.trans h1.output, Nat.le_trans h1.size h2.size, fun j hj hne => (h2.block j (Nat.lt_of_lt_of_le hj h1.size) hne).trans (h1.block j hj hne)⟩

set_option maxHeartbeats 600000 in
theorem insert_nil (k : Nat) (w : World) (hk1 : 1 ≤ k) (hk2 : k ≤ 2) :
    Calls Try.prog 33 #[.slice none 0 0, .int .i64 0, .int .i64 k] w fun e w' => ∃ zs, e = .returned (.slice (some ⟨w.heap.size, 0, none⟩) k zs.length) ∧ RowAt w' w.heap.size zs ∧ zs.take k = List.replicate k 0 ∧ k ≤ zs.length ∧ zs.length ≤ 400000 ∧ Below w.heap.size w w' := by
  have hb1 : (0 : Int) < (k : Int) := by omega
  have hk3 : (k : Int) ≤ 2 := by omega
  go_enter Try.func33, Try.ntmps33
  go_wp2_with fail
  refine (slotsAtLeast_any k (by omega) (by omega) w).mono ?_
  rintro e w' ⟨⟨c, hc1, hc2, rfl⟩, hw⟩
  obtain rfl := hw.symm
  have hmk := fun w => make_any k c hc1 (by omega) w
  have hNc : (k : Int) ≤ (c : Int) := by omega
  have hc3 : (c : Int) ≤ 400000 := by omega
  have hkc : IntKind.i64.wrap (k : Int) = (k : Int) := by rw [IntKind.wrap_i64]; omega
  go_wp2_with (refine wpList_copy_nothing rfl (.tmp 21) (.tmp 24) 38 38 rfl 42 Try.underlying38 (by kernel_rfl) _ _ _ _ _ _ rfl rfl (by simp) ?_)
  go_frame
  go_region_held3 (fun _ => True) (trivial) (first | (refine step_copyW rfl (.tmp 30) (.tmp 33) 38 38 rfl 42 Try.underlying38 (by kernel_rfl) _ _ _ _ _ _ rfl rfl w.heap.size 0 (List.replicate c 0) (rowAt_new w c) [] (by simp) (fun h => absurd h (by simp)) (by simp) ?_; intro w3 R3 G3))
  all_goals go_wp2
  all_goals
    go_ret
    have RF : RowAt w3 w.heap.size (List.replicate c 0) := by have := R3.out; simpa [splice] using this
    have hbel : Below w.heap.size w w3 := ((Below.refl _ _).alloc (Nat.le_refl _) (.cells (zrow c) 42)).trans (((Below.refl _ _).drew).trans (below_grown (by show w.heap.size ≤ (w.alloc (.cells (zrow c) 42)).heap.size; simp) G3 (Nat.le_refl _)))
    exact ⟨_, ret_slice (by first | (simp; done) | (simp; omega)), RF, by rw [List.take_replicate]; congr 1; omega, by simp; omega, by simp; omega, hbel⟩

theorem rowAt_setCells {w : World} {g : Nat} {zs : List Nat} (h : RowAt w g zs) (off k : Nat) : RowAt (w.setCells g off (List.replicate k (.int .u64 0))) g (zeroAt zs off k) := by
  induction k generalizing w zs off with
  | zero => exact h
  | succ k ih =>
    rw [List.replicate_succ]
    exact ih (h.setCell off 0) (off + 1)


theorem zero42 (w : World) : (zeroValue 42).run Try.prog w = .ok (.int .u64 0) w := by kernel_rfl

set_option maxHeartbeats 600000 in
theorem insert_room (g i k N len : Nat) (zs : List Nat) (w : World) (hl : len ≤ 100000) (hz : zs.length ≤ 1000000) (hi : i ≤ len) (hk1 : 1 ≤ k) (hk2 : k ≤ 2) (hN : N = len + k) (hroom : N ≤ zs.length) (hR : RowAt w g zs) :
    Calls Try.prog 33 #[.slice (some ⟨g, 0, none⟩) len zs.length, .int .i64 i, .int .i64 k] w fun e w' => e = .returned (.slice (some ⟨g, 0, none⟩) N zs.length) ∧ RowAt w' g (zeroAt (splice zs (i + k) ((zs.take len).drop i)) i k) ∧ w.grownBy w' (some g) := by
  have eN : (len : Int) + (k : Int) = (N : Int) := by omega
  have hb1 : ¬ (zs.length : Int) < (N : Int) := by omega
  have HN : Hid (N = len + k) := hN
  have HR : Hid (RowAt w g zs) := hR
  have hii : (i : Int) ≤ (len : Int) := by omega
  have hN2 : (N : Int) ≤ 100002 := by omega
  have hNz : (N : Int) ≤ (zs.length : Int) := by omega
  obtain ⟨C, HCC⟩ : ∃ C, Hid (C = zs.length) := ⟨_, rfl⟩
  rw [← HCC.out]
  have hC1 : (N : Int) ≤ (C : Int) := by have := HCC.out; omega
  have hC2 : ¬ (C : Int) < (N : Int) := by have := HCC.out; omega
  have hC3 : (C : Int) ≤ 1000000 := by have := HCC.out; omega
  obtain ⟨P, HP⟩ : ∃ P : Nat, Hid (P = i + k) := ⟨_, rfl⟩
  have ew : IntKind.i64.wrap ((i : Int) + (k : Int)) = (P : Int) := by have := HP.out; rw [IntKind.wrap_i64]; omega
  have ew2 : IntKind.i64.wrap ((N : Int) - (k : Int)) = (len : Int) := by rw [IntKind.wrap_i64]; omega
  have ew3 : (i : Int) + (k : Int) = (P : Int) := by have := HP.out; omega
  have ew4 : IntKind.i64.wrap (P : Int) = (P : Int) := by have := HP.out; rw [IntKind.wrap_i64]; omega
  have hP0 : (0 : Int) ≤ (P : Int) := by omega
  have hP1 : (P : Int) ≤ (N : Int) := by have := HP.out; omega
  have hlN : (len : Int) ≤ (N : Int) := by omega
  have hlC : (len : Int) ≤ (C : Int) := by omega
  have hiP : (i : Int) ≤ (P : Int) := by omega
  have hPC : (P : Int) ≤ (C : Int) := by omega
  clear hN hR hb1 hNz hroom hz
  go_enter Try.func33, Try.ntmps33
  go_wp2_with fail
  obtain ⟨X, HX⟩ : ∃ X, Hid (X = (zs.take len).drop i) := ⟨_, rfl⟩
  have HXL : Hid (X.length = len - i) := by
    have h1 := HCC.out
    show _ = _
    rw [HX.out]; simp; omega
  have hCi : ¬ C = i := by omega
  have HI : Hid (X.length = Nat.min (len - i) (N - P)) := by
    have h1 := HXL.out; have h2 := HP.out; have h3 := HN.out
    show X.length = min (len - i) (N - P)
    omega
  have HF : Hid (P + X.length ≤ zs.length) := by
    have h1 := HXL.out; have h2 := HP.out; have h3 := HN.out; have h4 := HCC.out
    show _ ≤ _
    omega
  have HPO : Hid (0 < X.length → (if C = P then some (⟨g, 0, none⟩ : Addr) else some ⟨g, P, none⟩) = some ⟨g, P, none⟩ ∧ ∃ b o, (some (⟨g, i, none⟩ : Addr)) = some ⟨b, o, none⟩ ∧ ∀ j, j < X.length → w.drew.cell? ⟨b, o + j, none⟩ = some (.int .u64 (gw X j : Nat))) := by
    intro hpos
    have h1 := HXL.out; have h2 := HP.out; have h3 := HN.out; have h4 := HCC.out
    refine ⟨by rw [if_neg (by omega)], g, i, rfl, fun j hj => ?_⟩
    rw [World.cell?_drew, HR.out.cell (i + j) (by omega), HX.out, gw_drop, gw_take (by omega)]
  go_region_held3 (fun _ => True) (trivial) (first | (refine step_copyW rfl (.tmp 43) (.tmp 49) 38 38 rfl 42 Try.underlying38 (by kernel_rfl) _ _ _ _ _ _ rfl rfl g P zs HR.out X HI.out HPO.out HF.out ?_; intro w2 R2 G2))
  have hlen2 : (splice zs P X).length = zs.length := length_splice _ _ _ HF.out
  have HL2 : Hid ((splice zs P X).length = zs.length) := hlen2
  clear hlen2
  have hcl : ∀ ty, (Builtin.clear_ #[38] ty #[.slice (some ⟨g, i, none⟩) (P - i) (C - i)]).run Try.prog w2 = .ok (.tuple #[]) (w2.setCells g i (List.replicate (P - i) (.int .u64 0))) := by
    intro ty
    have h2 := HP.out; have h3 := HN.out; have h4 := HCC.out; have h5 := HL2.out
    exact Lib.run_clear_slice w2 38 42 ty (.int .u64 0) Try.underlying38 zero42 rfl rfl g i (P - i) (C - i) (by omega) (fun j hj => by rw [R2.out.cell (i + j) (by omega)]; rfl) (fun j hj => R2.out.frozen (i + j))
  go_wp2_with (simp only [hcl])
  all_goals go_ret
  all_goals
    have h2 := HP.out
    have e : P - i = k := by omega
    refine ⟨ret_slice (by first | rfl | (have := HCC.out; omega)), ?_, ?_⟩
    · have := rowAt_setCells R2.out i (P - i)
      rw [e, h2, HX.out] at this
      rw [e]
      exact this
    · have g2 := grownBy_setCells (g := g) (P - i) w2 i
      exact ⟨g2.os.trans G2.os, g2.tape.trans G2.tape, g2.output.trans G2.output, Nat.le_trans G2.size g2.size, fun j hj hne => (g2.block j (Nat.lt_of_lt_of_le hj G2.size) hne).trans (G2.block j hj hne)⟩
end Go.Proofs.Qxb6605852a
