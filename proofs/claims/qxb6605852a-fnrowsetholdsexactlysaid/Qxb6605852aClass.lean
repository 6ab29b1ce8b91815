import Derived.WalkKit
import Derived.Deep.QuietTactic
import Derived.BigQuiet
namespace Go.Proofs.Qxb6605852a
open Go.RowKit

/-- A world of a kind: kept as one letter, so that facts on its cells are rules for the walk. -/
structure WIn (G : World → Prop) where
  val : World
  ok : G val

/-- A region that draws its order, walked once in the order of the text, every operation quiet in a kind of worlds of the prover's own. -/
theorem wp_region_class {P : Program} {G : World → Prop} {id : Nat} {Q : Exit → Act → World → Prop} {a : Act} {w : World} {l : List Oper} (hm : P.follows .mixedOrders = true) (hB : Region.lexB .any l.toArray = true)
    (hG : G w.drew)
    (h : wpQuiet P l.toArray (fun w' => ∃ s : WIn G, w' = s.val) (fun a' => ∀ w', (∃ s : WIn G, w' = s.val) → Q .normal a' w') l a) : (Code.region id l.toArray true).wp P Q a w :=
  wp_region_quiet (C := fun w' => ∃ s : WIn G, w' = s.val) hm hB ⟨⟨_, hG⟩, rfl⟩ (by simpa using h)

/-- w' is w with new blocks behind it (written as it likes there), draws made, no mark turned. -/
structure Gr (w w' : World) : Prop where
  below : Below w.heap.size w w'
  fz : ∀ a, w'.frozen? a = w.frozen? a

theorem Gr.refl (w : World) : Gr w w := ⟨Below.refl _ _, fun _ => rfl⟩
theorem Gr.trans {a b c : World} (h : Gr a b) (k : Gr b c) : Gr a c :=
  ⟨h.below.trans (k.below.mono h.below.size), fun x => (k.fz x).trans (h.fz x)⟩
theorem Gr.drew {a b : World} (h : Gr a b) : Gr a b.drew := ⟨h.below.drew, h.fz⟩
theorem Gr.drewN {a b : World} (n : Nat) (h : Gr a b) : Gr a (b.drewN n) := ⟨⟨h.below.os, h.below.tape, h.below.output, h.below.size, h.below.block⟩, h.fz⟩
theorem Gr.alloc {a b : World} (h : Gr a b) (c : Array Value) (t : TypeId) : Gr a (b.alloc (.cells c t)) :=
  ⟨h.below.alloc h.below.size _, fun x => (frozen?_alloc_cells _ _ _ x).trans (h.fz x)⟩
theorem Gr.cell {a b : World} (h : Gr a b) {k o : Nat} {v : Value} (hk : a.cell? ⟨k, o, none⟩ = some v) : b.cell? ⟨k, o, none⟩ = some v :=
  (h.below.cell (World.block_lt_of_cell? _ _ hk)).trans hk
theorem Gr.setCell_both {a b : World} (h : Gr a b) (p : Addr) (_hp : p.block < a.heap.size) (v : Value) : Gr (a.setCell p v) (b.setCell p v) := by
  refine ⟨⟨h.below.os, h.below.tape, h.below.output, by simpa [World.setCell] using h.below.size, fun k hk => ?_⟩, fun x => ?_⟩
  · have hk' : k < a.heap.size := by simpa [World.setCell] using hk
    simp only [World.setCell, Array.getElem?_modify]
    rw [h.below.block k hk']
  · rw [World.frozen?_setCell, World.frozen?_setCell]; exact h.fz x
theorem Gr.setCell_new {a b : World} (h : Gr a b) (p : Addr) (hp : a.heap.size ≤ p.block) (v : Value) : Gr a (b.setCell p v) :=
  ⟨h.below.setCell hp v, fun x => by rw [World.frozen?_setCell]; exact h.fz x⟩
theorem Gr.grown {a b : World} (h : Gr a b) : Grown a b := ⟨h.below.frame _, h.fz, h.below.size⟩
end Go.Proofs.Qxb6605852a
