import Derived.Test.Qxb6605852aRunOf
namespace Go.Proofs.Qxb6605852a
open Go.RowKit Go.Shelf
set_option linter.unusedVariables false

attribute [local go_sem] Oper.semAt_some

theorem box_cell {W : World} {B : Nat} {v : Value} {t : TypeId} (h : W.heap[B]? = some (.cells #[v] t (0, 0))) : W.cell? ⟨B, 0, none⟩ = some v ∧ W.frozen? ⟨B, 0, none⟩ = false := by
  constructor <;> simp [World.cell?, World.frozen?, h]
theorem box_new (W : World) (v : Value) (t : TypeId) : (W.alloc (.cells #[v] t)).cell? ⟨W.heap.size, 0, none⟩ = some v ∧ (W.alloc (.cells #[v] t)).frozen? ⟨W.heap.size, 0, none⟩ = false :=
  box_cell (World.alloc_heap_new W _)
theorem cell_al {W : World} {a : Addr} {v : Value} (o : Obj) (h : W.cell? a = some v) : (W.alloc o).cell? a = some v := cell_kept h (World.grownBy_alloc W o none) (fun r e => by cases e)
theorem frozen_al {W : World} {a : Addr} {v : Value} (o : Obj) (h : W.cell? a = some v) (hf : W.frozen? a = false) : (W.alloc o).frozen? a = false := (frozen_kept h (World.grownBy_alloc W o none) (fun r e => by cases e)).trans hf

theorem keepsOthers_drewN (W : World) (n : Nat) : KeepsOthers W (W.drewN n) := ⟨Nat.le_refl _, fun _ _ h _ => h⟩

/-- What runOf answers. -/
def RunAt (ss : List Seg) (m : Nat) (r : Int) : Prop :=
  (r = -1 ∧ ∀ j (h : j < ss.length), ss[j].mode ≠ m) ∨ ∃ j, ∃ h : j < ss.length, r = (hix ss j : Nat) ∧ ss[j].mode = m

set_option maxRecDepth 100000 in
set_option maxHeartbeats 2000000 in
theorem runOf_any (rb g cap m : Nat) (p : Option Addr) (ss : List Seg) (hG : Good ss) (hm : m < 256) (w : World) (hR : Reads w.heap.size w rb p g cap ss) :
    Calls Try.prog 24 #[.pointer (some ⟨rb, 0, none⟩), .int .u8 (m : Nat)] w fun e w' => (∃ r, RunAt ss m r ∧ e = .returned (.int .i64 r)) ∧ Below w.heap.size w w' := by
  refine (callsIn_wide (n := 3)).1 ?_
  refine callsIn_of_wp_marks Try.func24 rfl trivial ?_ rfl
  simp only [Try.ntmps24, List.size_toArray, List.length_cons, List.length_nil, Nat.reduceAdd, Nat.reduceSub, Array.replicate_succ, Array.replicate_zero, List.push_toArray, List.append_toArray, List.nil_append, List.cons_append]
  gi_wp2
  refine ⟨trivial, (heads_in 2 _ _).mono ?_⟩
  rintro e w' ⟨rfl, rfl⟩
  gi_wp2
  obtain ⟨v0, hv0⟩ : ∃ v, v = Value.pointer (some (⟨rb, 0, none⟩ : Addr)) := ⟨_, rfl⟩
  obtain ⟨v1, hv1⟩ : ∃ v, v = Value.int .u8 (m : Int) := ⟨_, rfl⟩
  have c0 := box_new w v0 29
  have c1 := box_new (w.alloc (.cells #[v0] 29)) v1 35
  have c2 := box_new ((w.alloc (.cells #[v0] 29)).alloc (.cells #[v1] 35)) (.int .i64 0) 3
  have c3 := box_new (((w.alloc (.cells #[v0] 29)).alloc (.cells #[v1] 35)).alloc (.cells #[.int .i64 0] 3)) v0 29
  simp only [World.size_alloc] at c1 c2 c3
  have hB0 : Below w.heap.size w ((((w.alloc (.cells #[v0] 29)).alloc (.cells #[v1] 35)).alloc (.cells #[.int .i64 0] 3)).alloc (.cells #[v0] 29)) :=
    ((((Below.refl _ w).alloc (Nat.le_refl _) _).alloc (by simp) _).alloc (by simp; omega) _).alloc (by simp; omega) _
  subst hv0 hv1
  refine wpIn_rangeFunc_ownF rfl (by omega) (gf := 38) (lb := #[.pointer (some ⟨w.heap.size + 1 + 1 + 1, 0, none⟩)]) rfl trivial (enters_of Try.func38 (by kernel_rfl) rfl)
    (heads_stops 2 (by omega) (w.heap.size + 1 + 1 + 1) (w.heap.size + 1 + 1 + 1 + 1) rb g cap p ss hG _ (by simp) (by simp) (by omega) c3.1 ?hreads) belowK_t (belowK_b (by simp)) (Below.refl _ _) (fun _ => rfl)
    (fun pre W => ((∀ y ∈ pre, ss[y.val].mode ≠ m) ∧ W.cell? ⟨w.heap.size, 0, none⟩ = some (.pointer (some ⟨rb, 0, none⟩)) ∧ W.cell? ⟨w.heap.size + 1, 0, none⟩ = some (.int .u8 (m : Int)) ∧ W.cell? ⟨w.heap.size + 1 + 1, 0, none⟩ = some (.int .i64 0) ∧ W.frozen? ⟨w.heap.size + 1 + 1, 0, none⟩ = false) ∧ Below w.heap.size w W)
    (fun c pre W => (c = .ret ∧ ∃ x : Fin ss.length, ss[x.val].mode = m ∧ W.cell? ⟨w.heap.size + 1 + 1, 0, none⟩ = some (.int .i64 (hix ss x.val : Nat))) ∧ Below w.heap.size w W)
    (OwnFrom.and (Own.from (fun s A B row hs hg hr => ⟨hs.1, cell_kept hs.2.1 hg hr, cell_kept hs.2.2.1 hg hr, cell_kept hs.2.2.2.1 hg hr, (frozen_kept hs.2.2.2.1 hg hr).trans hs.2.2.2.2⟩) _) (ownFrom_below (Nat.le_refl _) (by simp; omega)))
    (fun c => OwnFrom.and (Own.from (fun s A B row hs hg hr => ⟨hs.1, by obtain ⟨x, h1, h2⟩ := hs.2; exact ⟨x, h1, cell_kept h2 hg hr⟩⟩) _) (ownFrom_below (Nat.le_refl _) (by simp; omega)))
    ⟨⟨by simp, cell_al _ (cell_al _ (cell_al _ c0.1)), cell_al _ (cell_al _ c1.1), cell_al _ c2.1, frozen_al _ c2.1 c2.2⟩, hB0⟩
    (fun x => { tmps := #[.pointer (some ⟨rb, 0, none⟩), .int .u8 (m : Int), .pointer (some ⟨w.heap.size, 0, none⟩), .pointer (some ⟨w.heap.size + 1, 0, none⟩), .pointer (some ⟨w.heap.size + 1 + 1, 0, none⟩), .int .i64 (hix ss x.val : Nat), undef, undef, undef, .pointer (some ⟨rb, 0, none⟩), .func (.func 38) #[] #[.pointer (some ⟨w.heap.size + 1 + 1 + 1, 0, none⟩)], .int .i64 (hix ss x.val : Nat), undef, undef, undef, undef, undef, undef, undef, undef, undef, undef, undef], defers := [] }) ?assign ?body ?done ?stop
  case hreads =>
    refine ⟨by have := hR.lrb; omega, fun h => ⟨by have := (hR.lg h).1; omega, (hR.lg h).2⟩, (hB0.cell (p := ⟨rb, 0, none⟩) hR.lrb).trans hR.slot, hR.room, fun i hi => (hB0.cell (p := ⟨g, i, none⟩) (hR.lg (flat_ne_nil hi)).1).trans (hR.word i hi)⟩
  case assign =>
    intro l x W K hK
    gi_wp2
    exact hK
  case body =>
    rintro l pre x W ⟨⟨hp, hc0, hc1, hc2, hf2⟩, hB⟩ _
    have hRW := hR.below hB
    have hrun := run_seg hRW hG x.val x.isLt
    gi_wp2
    refine ⟨trivial, CallsIn.inRound l ((callsIn_wide.2 hrun).mono ?_)⟩
    rintro e W4 ⟨rfl, n4, rfl⟩
    gi_wp2
    · rename_i hx
      have hm1 : ss[x.val].mode = m := by have := eq_of_beq hx; omega
      refine ⟨(keepsOthers_drewN W n4).trans (KeepsOthers.setCell _ _ _), ⟨rfl, x, hm1, World.cell?_setCell_same' _ _ _ (by rw [World.cell?_drewN, hc2]; rfl)⟩, (below_drewN hB n4).setCell (p := ⟨w.heap.size + 1 + 1, 0, none⟩) (by simp; omega) _⟩
    · rename_i hx
      have hm1 : ss[x.val].mode ≠ m := by
        intro e
        rw [e] at hx
        simp at hx
      refine ⟨keepsOthers_drewN W n4, below_drewN (Below.refl _ _) _, ⟨fun y hy => (List.mem_append.1 hy).elim (hp y) (fun e => by simp at e; subst e; exact hm1), hc0, hc1, hc2, hf2⟩, below_drewN hB _⟩
  case done =>
    rintro D ys W hD rfl ⟨⟨hne, _, _, hcr, hfr⟩, hB⟩ hK
    gi_wp2
    have hK' := (KeepsOthers.setCell W ⟨w.heap.size + 1 + 1, 0, none⟩ (.int .i64 (-1))).same D _ hK rfl
    refine ⟨by simp, .inl ⟨_, _, rfl, run_takeDeferred hK', ?_⟩⟩
    have hc5 := cell_kept (World.cell?_setCell_same' W ⟨w.heap.size + 1 + 1, 0, none⟩ (.int .i64 (-1)) (by rw [hcr]; rfl)) (grownBy_putObj' _ D (.deferred none)) (fun r e => by cases e; exact ⟨_, hK', rfl⟩)
    refine ⟨.int .i64 (-1), ?_, ⟨-1, .inl ⟨rfl, fun j h => hne ⟨j, h⟩ (by simp)⟩, rfl⟩, (hB.setCell (p := ⟨w.heap.size + 1 + 1, 0, none⟩) (by simp; omega) _).trans (belowK_b (w := w) (Nat.le_refl _) _ D _ _ (by simp at hD; omega) hK' rfl rfl)⟩
    simp [results, Try.f24, go_sem, hc5]
  case stop =>
    rintro D c pre W hD hpre ⟨⟨rfl, x, hx, hcr⟩, hB⟩ hK
    gi_wp2
    refine ⟨by simp, .inl ⟨_, _, rfl, run_takeDeferred hK, ?_⟩⟩
    have hc5 := cell_kept hcr (grownBy_putObj' _ D (.deferred none)) (fun r e => by cases e; exact ⟨_, hK, rfl⟩)
    refine ⟨.int .i64 (hix ss x.val : Nat), ?_, ⟨_, .inr ⟨x.val, x.isLt, rfl, hx⟩, rfl⟩, hB.trans (belowK_b (w := w) (Nat.le_refl _) W D _ _ (by simp at hD; omega) hK rfl rfl)⟩
    simp [results, Try.f24, go_sem, hc5]
end Go.Proofs.Qxb6605852a
