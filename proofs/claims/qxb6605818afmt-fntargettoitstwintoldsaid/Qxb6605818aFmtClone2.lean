import Derived.Test.Qxb6605818aFmtClone
namespace Go.Proofs.Qxb6605818aFmt
open Go.RowKit Go.Maps
set_option linter.unusedVariables false

theorem Sl.kept {S : Nat → Prop} {w w' : World} {a : Option Addr} {len : Nat} {f : Nat → Value} (h : Sl w a len f) (hF : Foot S w w') (hn : ∀ x, a = some x → ¬ S x.block) : Sl w' a len f := by
  intro i hi
  obtain ⟨x, h1, h2⟩ := h i hi
  exact ⟨x, h1, hF.cell h2 (by show ¬ S (x.add i).block; have e : (x.add i).block = x.block := by unfold Addr.add; split <;> rfl
                               rw [e]; exact hn x h1)⟩
theorem add_block (x : Addr) (i : Nat) : (x.add i).block = x.block := by unfold Addr.add; split <;> rfl

/-- A slice of slices of numbers that can be read. -/
structure Rows2 (w : World) (a : Option Addr) (len : Nat) (pa : Nat → Option Addr) (pl pc : Nat → Nat) (z : Nat → Nat → Int) : Prop where
  out : Sl w a len (sliV pa pl pc)
  inn : ∀ i, i < len → Sl w (pa i) (pl i) (intV (z i))
  nil : ∀ i, i < len → pa i = none → pl i = 0 ∧ pc i = 0

theorem Rows2.below {w w' : World} {a : Option Addr} {len : Nat} {pa : Nat → Option Addr} {pl pc : Nat → Nat} {z : Nat → Nat → Int} (h : Rows2 w a len pa pl pc z) (hb : Below w.heap.size w w') : Rows2 w' a len pa pl pc z :=
  ⟨h.out.below hb, fun i hi => (h.inn i hi).below hb, h.nil⟩

set_option maxHeartbeats 1000000 in
theorem cloneIntss_any (a : Option Addr) (len cap : Nat) (pa : Nat → Option Addr) (pl pc : Nat → Nat) (z : Nat → Nat → Int) (w : World) (hl : len ≤ 2000000) (hpl : ∀ i, i < len → pl i ≤ 2000000) (hnil : a = none → len = 0 ∧ cap = 0) (h : Rows2 w a len pa pl pc z) :
    Calls Tryf.prog 10 #[.slice a len cap] w fun e w' => ∃ b pa', e = .returned (.slice b len len) ∧ Rows2 w' b len pa' pl pl z ∧ Below w.heap.size w w' := by
  cases a with
  | none =>
    obtain ⟨rfl, rfl⟩ := hnil rfl
    have heq := eq_nil24
    clear h hnil
    go_enter Tryf.func10, Tryf.ntmps10
    go_wp2
    go_ret
    exact ⟨none, pa, rfl, ⟨fun i hi => absurd hi (by omega), fun i hi => absurd hi (by omega), fun i hi => absurd hi (by omega)⟩, Below.refl _ _⟩
  | some x =>
    have heq := eq_some24 x len cap
    have hmk := fun w => makeII len hl w
    have H : Hid (Rows2 w (some x) len pa pl pc z) := h
    have HPL : Hid (∀ i, i < len → pl i ≤ 2000000) := hpl
    have hli : (len : Int) ≤ 2000000 := by omega
    clear h hnil hpl
    go_enter Tryf.func10, Tryf.ntmps10
    go_wp2
    go_loopw [4] (fun i wr => ∃ k : Nat, k ≤ len ∧ i = .int .i64 k ∧ ∃ pa' : Nat → Option Addr, Hid (wr.rowIs w.heap.size 23 len (fun j => if j < k then .slice (pa' j) (pl j) (pl j) else .slice none 0 0)) ∧ Hid (∀ j, j < k → Sl wr (pa' j) (pl j) (intV (z j)) ∧ (∀ y, pa' j = some y → w.heap.size < y.block) ∧ (pa' j = none → pl j = 0)) ∧ Hid (Below w.heap.size w wr)) (fun i _ => len - (intOf i).toNat)
    case atStart =>
      exact ⟨0, Nat.zero_le _, rfl, pa, (World.rowIs_made w (.slice none 0 0) len 23).congr (fun i hi => by simp), fun j hj => absurd hj (by omega), (Below.refl _ _).alloc (Nat.le_refl _) _⟩
    case round =>
      obtain ⟨k, hk, rfl, pa', HR, HI, HB⟩ := hrel
      by_cases hlt : k < len
      · obtain ⟨y, hy, hc⟩ := H.out.out k hlt
        cases hy
        have hc' : wr.cell? (x.add k) = some (.slice (pa k) (pl k) (pc k)) := (HB.out.cell (cell_lt hc)).trans hc
        have HC : Hid (Calls Tryf.prog 9 #[.slice (pa k) (pl k) (pc k)] wr fun e w' => Cl (pa k) (pl k) (intV (z k)) wr e w') := cloneInts_any (pa k) (pl k) (pc k) (z k) wr (HPL.out k hlt) (H.out.nil k hlt) ((H.out.inn k hlt).below HB.out)
        have hlti : (k : Int) < (len : Int) := by omega
        have hsz := HB.out.size
        have hRl := HR.out.lt
        obtain ⟨ak, hak⟩ : ∃ ak, pa k = ak := ⟨_, rfl⟩
        obtain ⟨lk, hlk⟩ : ∃ lk, pl k = lk := ⟨_, rfl⟩
        obtain ⟨ck, hck⟩ : ∃ ck, pc k = ck := ⟨_, rfl⟩
        rw [hak, hlk, hck] at hc' HC
        have HLK : Hid (pl k = lk) := hlk
        clear hc hak hlk hck
        go_wp2_with fail
        refine Calls.mono HC.out ?_
        rintro e w2 ⟨b, rfl, hs2, hb2, hB2⟩
        have hR2 := HR.out.of_block (hB2.block w.heap.size hRl)
        have hcm := hR2.cell hlt
        rw [if_neg (Nat.lt_irrefl k)] at hcm
        have hfz := hR2.frozen k
        have HR2 : Hid (w2.rowIs w.heap.size 23 len (fun j => if j < k then .slice (pa' j) (pl j) (pl j) else .slice none 0 0)) := hR2
        have HS2 : Hid (Sl w2 b lk (intV (z k))) := hs2
        have HB2 : Hid (Below wr.heap.size wr w2) := hB2
        have HBB : Hid (∀ x, b = some x → w.heap.size < x.block) := fun y hy => by have := hb2 y hy; omega
        have HNB : Hid (b = none → lk = 0) := fun e => by
          subst e
          by_cases h0 : lk = 0
          · exact h0
          · obtain ⟨y, hy, _⟩ := hs2 0 (by omega)
            cases hy
        clear hR2 hs2 hB2 hb2
        go_wp2
        refine ⟨⟨k + 1, by omega, by go_num, upd pa' k b, ?_, fun j hj => ?_, ?_⟩, ?_⟩
        · refine (HR2.out.set k (.slice b lk lk)).congr (fun j hj => ?_)
          by_cases e : j = k
          · subst e; rw [if_pos rfl, if_pos (by omega), upd_same, HLK.out]
          · rw [if_neg e, upd_other _ _ e]
            by_cases e2 : j < k
            · rw [if_pos e2, if_pos (by omega)]
            · rw [if_neg e2, if_neg (by omega)]
        · have hset := Foot.setCell w2 ⟨w.heap.size, k, none⟩ (.slice b lk lk)
          by_cases e : j = k
          · subst e
            rw [upd_same, HLK.out]
            exact ⟨HS2.out.kept hset (fun y hy => by have := HBB.out y hy; show ¬ y.block = w.heap.size; omega), HBB.out, HNB.out⟩
          · rw [upd_other _ _ e]
            obtain ⟨i1, i2, i3⟩ := HI.out j (by omega)
            exact ⟨(i1.below HB2.out).kept hset (fun y hy => by have := i2 y hy; show ¬ y.block = w.heap.size; omega), i2, i3⟩
        · exact (HB.out.trans (HB2.out.mono HB.out.size)).setCell (Nat.le_refl _) _
        · simp [intOf]; omega
      · obtain rfl : k = len := by omega
        go_wp2
        go_ret
        refine ⟨_, pa', rfl, ⟨Sl.row (HR.out.congr (fun j hj => by rw [if_pos hj]; rfl)), fun i hi => (HI.out i hi).1, fun i hi e => ⟨(HI.out i hi).2.2 e, (HI.out i hi).2.2 e⟩⟩, HB.out⟩
end Go.Proofs.Qxb6605818aFmt
