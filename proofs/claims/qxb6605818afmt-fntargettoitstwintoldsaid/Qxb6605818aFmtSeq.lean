import Derived.Test.Qxb6605818aFmtSort3
namespace Go.Proofs.Qxb6605818aFmt
open Go.RowKit Go.Maps Go.Stop
set_option linter.unusedVariables false

theorem lens_le (M : Nat) : ∀ xs : List (List UInt8), (∀ x ∈ xs, x.length ≤ M) → Lib.lens xs ≤ xs.length * M := by
  intro xs
  induction xs with
  | nil => intro _; simp [Lib.lens]
  | cons a l ih =>
    intro h
    have h1 := h a (by simp)
    have h2 := ih (fun x hx => h x (by simp [hx]))
    have e : Lib.lens (a :: l) = a.length + Lib.lens l := by simp [Lib.lens]
    rw [e, List.length_cons, Nat.add_mul, Nat.one_mul]
    omega

theorem join_le (xs : List (List UInt8)) (sep : List UInt8) (M N : Nat) (hM : ∀ x ∈ xs, x.length ≤ M) (hN : xs.length ≤ N) (hs : sep.length ≤ 4) : (Lib.join xs sep).length ≤ 4 * N + N * M := by
  cases xs with
  | nil => simp [Lib.join_nil]
  | cons x r =>
    rw [Lib.join_length]
    have h1 := lens_le M (x :: r) hM
    have h2 : (x :: r).length * M ≤ N * M := Nat.mul_le_mul_right M hN
    have h3 : sep.length * r.length ≤ 4 * N := Nat.mul_le_mul hs (by simp at hN; omega)
    omega

def litArrow : ByteArray := ⟨#[32, 45, 62, 32]⟩

/-- Join over names. -/
theorem join_names (w : World) (b l c : Nat) (t : Nat → ByteArray) (hl : l ≤ 5000) (hc : l ≤ c) (hb : b < w.heap.size) (h : Sl w (some ⟨b, 0, none⟩) l (strV t)) (ht : ∀ i, i < l → (t i).size ≤ 1048576) :
    Calls Tryf.prog 33 #[.slice (some ⟨b, 0, none⟩) l c, .string litArrow] w fun e w' => (∃ x, e = .returned (.string x)) ∧ Below w.heap.size w w' := by
  have hlen : ((List.range l).map t).length = l := by simp
  have key := Tryf.strings_Join b 0 c ((List.range l).map t) litArrow w (fun j x hx => by
      have hj : j < l := by
        have := (List.getElem?_eq_some_iff.1 hx).1
        simpa using this
      have e : x = t j := by
        rw [List.getElem?_map, List.getElem?_range hj] at hx
        simpa using hx.symm
      subst e
      obtain ⟨y, hy, hcy⟩ := h j hj
      cases hy
      rw [Addr.add_lit] at hcy
      exact hcy) hb (by rw [hlen]; omega) (by rw [hlen]; exact hc) (by
      have := join_le (((List.range l).map t).map (·.data.toList)) litArrow.data.toList 1048576 5000 (fun x hx => by
        obtain ⟨y, hy, rfl⟩ := List.mem_map.1 hx
        obtain ⟨i, hi, rfl⟩ := List.mem_map.1 hy
        have := ht i (by simpa using hi)
        have e : (t i).data.toList.length = (t i).size := Array.length_toList
        omega) (by simp; exact hl) (by simp [litArrow])
      omega)
  rw [hlen] at key
  refine key.mono ?_
  rintro e w' ⟨rfl, hB⟩
  exact ⟨⟨_, rfl⟩, hB⟩

theorem cell_new2 (w : World) (a b : Value) (t : TypeId) : (w.alloc (.cells #[a, b] t)).cell? ⟨w.heap.size, 0, none⟩ = some a ∧ (w.alloc (.cells #[a, b] t)).cell? ⟨w.heap.size, 1, none⟩ = some b := by
  have h : (w.alloc (.cells #[a, b] t)).heap[w.heap.size]? = some (.cells #[a, b] t (0, 0)) := heap_alloc_new _ _
  constructor
  · show (match (w.alloc (.cells #[a, b] t)).heap[w.heap.size]? with | some (.cells c _ _) => c[0]? | _ => none) = _
    rw [h]
    rfl
  · show (match (w.alloc (.cells #[a, b] t)).heap[w.heap.size]? with | some (.cells c _ _) => c[1]? | _ => none) = _
    rw [h]
    rfl

/-- The members as a list. -/
def ulOf (M : Nat → ByteArray) (lm : Nat) : List ByteArray := (List.range lm).map M
theorem mem_ulOf {M : Nat → ByteArray} {lm : Nat} {x : ByteArray} : x ∈ ulOf M lm ↔ ∃ i, i < lm ∧ M i = x := by simp [ulOf]

set_option maxRecDepth 100000 in
set_option maxHeartbeats 2000000 in
theorem sequence_any (F : Interp) (nm : ByteArray) (m p lm la : Nat) (M f g : Nat → ByteArray) (w : World) (hF : F.answers w.tape) (hlm : lm ≤ 4096) (hla : la ≤ 4096) (hm : w.rowIs m 9 lm (strV M)) (hp : w.rowIs p 72 (la * 2) (pairV f g)) (hM : ∀ i, i < lm → (M i).size ≤ 1048576) (hf : ∀ i, i < la → f i ∈ ulOf M lm) (hg : ∀ i, i < la → g i ∈ ulOf M lm) :
    Calls Tryf.prog 27 #[.agg #[.string nm, .slice (some ⟨m, 0, none⟩) lm lm, .slice (some ⟨p, 0, none⟩) la la]] w fun e w' => (∃ sv ev, e = .returned (.tuple #[sv, ev]) ∧ Names w' sv (ulOf M lm) 5000) ∧ Below w.heap.size w w' := by
  have hkey : ∀ x ∈ ulOf M lm, strKey x ∧ x.size ≤ 1048576 := fun x hx => by
    obtain ⟨i, hi, rfl⟩ := mem_ulOf.1 hx
    have := hM i hi
    exact ⟨by unfold strKey maxLen; omega, this⟩
  have HDB : Hid (∀ w', Below w.heap.size w w' → Calls Tryf.prog 31 #[.agg #[.string nm, .slice (some ⟨m, 0, none⟩) lm lm, .slice (some ⟨p, 0, none⟩) la la]] w' fun e w'' => ∃ mb, e = .returned (.map (some mb)) ∧ BefR w'' mb (ulOf M lm) ∧ Below w'.heap.size w' w'') := fun w' hb => by
    refine (directlyBefore_any nm _ p la f g w' hla rfl (rowIs_below hp hb) (fun i hi => (hkey _ (hg i hi)).1)).mono ?_
    rintro e w'' ⟨mb, n, gf, gl, rfl, hG, h1, h2, hB⟩
    obtain ⟨hs, hMp⟩ := hG.mp
    refine ⟨mb, rfl, ⟨gf, ⟨n, hs, hMp⟩, fun x => ?_⟩, hB⟩
    obtain ⟨a, l, c, t, hv, hl, hc, hsl, htu, _, _⟩ := names_of_own (ul := ulOf M lm) (N := 4096) (hG.own x) (fun y hy => by obtain ⟨i, hi, rfl⟩ := h1 x y hy; exact hf i hi) (by have := h2 x; omega)
    exact ⟨a, l, c, t, hv, hl, hsl, htu⟩
  have HSB : Hid (∀ w' bm, Below w.heap.size w w' → BefR w' bm (ulOf M lm) → Calls Tryf.prog 30 #[.slice (some ⟨m, 0, none⟩) lm lm, .map (some bm)] w' fun e w'' => (∃ sv cv, e = .returned (.tuple #[sv, cv]) ∧ Names w'' sv (ulOf M lm) 5000 ∧ Names w'' cv (ulOf M lm) 5000) ∧ Below w'.heap.size w' w'') := fun w' bm hb hr => sortBefore_any _ lm lm bm M (ulOf M lm) w' hlm (by simp [ulOf]; omega) (fun x hx => (hkey x hx).1) ((Sl.row hm).below hb) (fun i hi => mem_ulOf.2 ⟨i, hi, rfl⟩) hr
  have HKEY : Hid (∀ x ∈ ulOf M lm, strKey x ∧ x.size ≤ 1048576) := hkey
  have HF : Hid (F.answers w.tape) := hF
  have hnn := neq_nil22
  have hns := neq_some22
  clear hkey hm hp hM hf hg hF
  go_enter Tryf.func27, Tryf.ntmps27
  go_wp2
  obtain ⟨w1, hw1⟩ : ∃ w1, w.alloc (.cells #[.string nm, .slice (some ⟨m, 0, none⟩) lm lm, .slice (some ⟨p, 0, none⟩) la la] 43) = w1 := ⟨_, rfl⟩
  have hblk : w1.heap[w.heap.size]? = some (.cells #[.string nm, .slice (some ⟨m, 0, none⟩) lm lm, .slice (some ⟨p, 0, none⟩) la la] 43 (0, 0)) := by rw [← hw1]; exact heap_alloc_new _ _
  have hs1 : w1.heap.size = w.heap.size + 1 := by rw [← hw1]; simp
  have HB1 : Hid (Below w.heap.size w w1.drew) := by rw [← hw1]; exact ((Below.refl _ _).alloc (Nat.le_refl _) _).drew
  rw [hw1]
  have HBK : Hid (∀ w', Below w1.heap.size w1 w' → w'.cell? ⟨w.heap.size, 0, none⟩ = some (.string nm) ∧ w'.cell? ⟨w.heap.size, 1, none⟩ = some (.slice (some ⟨m, 0, none⟩) lm lm) ∧ w'.cell? ⟨w.heap.size, 2, none⟩ = some (.slice (some ⟨p, 0, none⟩) la la)) := fun w' hb => by
    have := (hb.block w.heap.size (by omega)).trans hblk
    simp [World.cell?, this]
  have HW1 : Hid (Below w1.heap.size w1 w1.drew) := (Below.refl _ _).drew
  clear hw1 hblk
  go_region_held3 (fun w' => w'.cell? ⟨w.heap.size, 0, none⟩ = some (.string nm) ∧ w'.cell? ⟨w.heap.size, 1, none⟩ = some (.slice (some ⟨m, 0, none⟩) lm lm) ∧ w'.cell? ⟨w.heap.size, 2, none⟩ = some (.slice (some ⟨p, 0, none⟩) la la)) (exact HBK.out _ (Hid.out (by assumption)))
    (first
      | (go_at_call 31
         refine Calls.mono (HDB.out _ (Hid.out (by assumption))) ?_
         rintro e w2 ⟨mb, rfl, hbr, hb2⟩
         have HBR : Hid (BefR w2 mb (ulOf M lm)) := hbr
         have HB2 : Hid (Below w.heap.size w w2) := HB1.out.trans (hb2.mono HB1.out.size)
         have HW2 : Hid (Below w1.heap.size w1 w2) := HW1.out.trans hb2
         clear hbr hb2)
      | (go_at_call 30
         refine Calls.mono (HSB.out _ _ (Hid.out (by assumption)) (Hid.out (by assumption))) ?_
         rintro e w3 ⟨⟨sv, cv, rfl, hsv, hcv⟩, hb3⟩
         have HSV : Hid (Names w3 sv (ulOf M lm) 5000) := hsv
         have HCV : Hid (Names w3 cv (ulOf M lm) 5000) := hcv
         have HB3 : Hid (Below w.heap.size w w3) := HB2.out.trans (hb3.mono HB2.out.size)
         have HW3 : Hid (Below w1.heap.size w1 w3) := HW2.out.trans (hb3.mono HW2.out.size)
         clear hsv hcv hb3))
  obtain ⟨ca, cl, cc, ct, hcv, hcl, hcc, hcs, hct, hca, hcn⟩ := HCV.out
  subst hcv
  cases ca with
  | none =>
    obtain ⟨rfl, rfl⟩ := hcn rfl
    clear hcs hct hca hcn hcl hcc
    go_wp2
    go_ret2
    exact ⟨⟨sv, _, rfl, HSV.out⟩, HB3.out⟩
  | some y =>
    obtain ⟨hy, hyl⟩ := hca y rfl
    obtain ⟨b, rfl⟩ : ∃ b, y = ⟨b, 0, none⟩ := ⟨_, hy⟩
    have HJ : Hid (∀ w', Below w3.heap.size w3 w' → Calls Tryf.prog 33 #[.slice (some ⟨b, 0, none⟩) cl cc, .string litArrow] w' fun e w'' => (∃ x, e = .returned (.string x)) ∧ Below w'.heap.size w' w'') := fun w' hb => join_names w' b cl cc ct hcl hcc (by have := hb.size; have : b < w3.heap.size := hyl; omega) (hcs.below hb) (fun i hi => (HKEY.out _ (hct i hi)).2)
    have HD3 : Hid (Below w3.heap.size w3 w3.drew) := (Below.refl _ _).drew
    have HN3 : Hid (∀ w', Below w3.heap.size w3 w' → w'.cell? ⟨w.heap.size, 0, none⟩ = some (.string nm)) := fun w' hb => (HBK.out w' (HW3.out.trans (hb.mono HW3.out.size))).1
    have HT3 : Hid (w3.tape = w.tape) := HB3.out.tape
    clear hcs hct hca hcn hcl hcc hy hyl HCV
    unfold litArrow at HJ
    go_wp2
    go_region_held3 (fun w' => w'.cell? ⟨w.heap.size, 0, none⟩ = some (.string nm)) (first | exact HN3.out _ (Hid.out (by assumption)) | exact HN3.out _ (Below.alloc (Hid.out (by assumption)) (Below.size (Hid.out (by assumption))) _))
      (first
        | (go_at_call 33
           refine Calls.mono (HJ.out _ (Hid.out (by assumption))) ?_
           rintro e w4 ⟨⟨x, rfl⟩, hb4⟩
           have HB4 : Hid (Below w3.heap.size w3 w4) := HD3.out.trans hb4
           clear hb4)
        | (go_at_call 32
           refine Calls.mono (errorf_cycle F _ _ _ _ (by show F.answers w4.tape; rw [HB4.out.tape, HT3.out]; exact HF.out) (cell_new2 _ _ _ _).1 (cell_new2 _ _ _ _).2) ?_
           rintro e w5 ⟨⟨v, rfl⟩, hb5⟩
           have HB5 : Hid (Below w3.heap.size w3 w5) := (HB4.out.alloc HB4.out.size _).trans (hb5.mono (by have := HB4.out.size; simp; omega))
           clear hb5))
    all_goals
      go_wp2
      go_ret2
      exact ⟨⟨_, _, rfl, names_nil _ _ _⟩, HB3.out.trans (HB5.out.mono HB3.out.size)⟩
end Go.Proofs.Qxb6605818aFmt
