import Derived.Test.Qxb6605852aInv
namespace Go.Proofs.Qxb6605852a
open Go.RowKit Go.Shelf
set_option linter.unusedVariables false

/-- A rowLocks in memory that holds what the model cur says; N rows held, sz of them in the spill. -/
structure Model (S : Nat → Prop) (w : World) (rb : Nat) (ss : List Seg) (sn : Nat) (f : Nat → Nat) (sz : Nat) (cur : Nat → Nat) : Prop where
  st : RlSt S w rb ss sn f sz
  inv : Inv ss f cur
  pos : ∀ r, f r ≠ 0 → 1 ≤ sz

/-- What a set turns. -/
def SetR (ss : List Seg) (f : Nat → Nat) (sz : Nat) (cur : Nat → Nat) (row target : Nat) (ss' : List Seg) (f' : Nat → Nat) (sz' : Nat) : Prop :=
  Inv ss' f' (upd cur row target) ∧ total ss' + sz' + one (cur row) = total ss + sz + one target ∧ (∀ r, r ≠ row → f' r = f r) ∧ sz' + one (f row) = sz + one (f' row) ∧ (flat ss').length ≤ (flat ss).length + 2

theorem one_zero : one 0 = 0 := rfl
theorem one_pos {n : Nat} (h : n ≠ 0) : one n = 1 := by simp [one, h]
theorem upd_upd {α : Type} (f : Nat → α) (r : Nat) (x y : α) : upd (upd f r x) r y = upd f r y := by
  funext i
  by_cases h : i = r
  · subst h; rw [upd_same, upd_same]
  · rw [upd_other _ _ h, upd_other _ _ h, upd_other _ _ h]
theorem upd_self {α : Type} (f : Nat → α) (r : Nat) (x : α) (h : f r = x) : upd f r x = f := by
  funext i
  by_cases hi : i = r
  · subst hi; rw [upd_same, h]
  · rw [upd_other _ _ hi]

theorem setR_drop {ss ss' : List Seg} {f f' cur : Nat → Nat} {sz sz' row m : Nat} (hi : Inv ss f cur) (hr : row < 4294967296) (hm : cur row = m) (h0 : m ≠ 0) (hsz : f row ≠ 0 → 1 ≤ sz) (hl : (flat ss').length ≤ (flat ss).length) (hd : Dropped ss f sz row m ss' f' sz') :
    SetR ss f sz cur row 0 ss' f' sz' := by
  obtain ⟨a, b, c, d, e⟩ := inv_drop hi hr hm h0 hsz hd
  refine ⟨a, by rw [hm, one_pos h0, one_zero]; omega, d, by rw [c, one_zero]; omega, by omega⟩

theorem setR_add {ss ss' : List Seg} {f f' cur : Nat → Nat} {sz sz' row m : Nat} (hi : Inv ss f cur) (hr : row < 4294967296) (hc : cur row = 0) (hv : okMode m) (h0 : m ≠ 0) (hl : (flat ss').length ≤ (flat ss).length + 2) (hd : Added ss f sz row m ss' f' sz') :
    SetR ss f sz cur row m ss' f' sz' := by
  obtain ⟨a, b, c, d⟩ := inv_add hi hr hc hv h0 hd
  have nf := (not_held hi hr hc).2.2
  refine ⟨a, by rw [hc, one_pos h0, one_zero]; omega, c, by rw [nf, one_zero]; omega, hl⟩

theorem setR_comp {ss ss1 ss2 : List Seg} {f f1 f2 cur : Nat → Nat} {sz sz1 sz2 row t : Nat} (h1 : SetR ss f sz cur row 0 ss1 f1 sz1) (hl : (flat ss1).length ≤ (flat ss).length) (h2 : SetR ss1 f1 sz1 (upd cur row 0) row t ss2 f2 sz2) : SetR ss f sz cur row t ss2 f2 sz2 := by
  obtain ⟨a1, a2, a3, a4, a5⟩ := h1
  obtain ⟨b1, b2, b3, b4, b5⟩ := h2
  rw [upd_same, one_zero] at b2
  rw [one_zero] at a2
  rw [upd_upd] at b1
  exact ⟨b1, by omega, fun r h => (b3 r h).trans (a3 r h), by omega, by omega⟩

set_option maxHeartbeats 600000 in
theorem set_any (S : Nat → Prop) (w : World) (rb : Nat) (ss : List Seg) (sn sz : Nat) (f cur : Nat → Nat) (row prev target : Nat) (h : RlSt S w rb ss sn f sz) (hi : Inv ss f cur) (hpos : f row ≠ 0 → 1 ≤ sz) (hl : (flat ss).length ≤ 99990) (hsn : sn ≤ 1000000) (hsz : sz ≤ 1000000) (hr : row < 4294967296)
    (hp : cur row = prev) (hv : okMode target) :
    Calls Try.prog 20 #[.pointer (some ⟨rb, 0, none⟩), .int .u32 row, .int .u8 prev, .int .u8 target] w fun e w' => e = .returned (.tuple #[]) ∧ Foot S w w' ∧ ∃ ss' f' sz', RlSt (fun k => S k ∨ w.heap.size ≤ k) w' rb ss' (sn + 1) f' sz' ∧ SetR ss f sz cur row target ss' f' sz' := by
  have hvp : okMode prev := hp ▸ hi.okc row
  by_cases hp0 : prev = 0
  · have e1 : ((prev : Int) != 0) = false := by rw [hp0]; rfl
    have hc0 : cur row = 0 := by rw [hp, hp0]
    obtain ⟨nR, nL, nf⟩ := not_held hi hr hc0
    by_cases ht : target = 0
    · have e2 : ((target : Int) != 0) = false := by rw [ht]; rfl
      have hres : SetR ss f sz cur row target ss f sz := by
        refine ⟨?_, by rw [hc0, ht], fun _ _ => rfl, rfl, by omega⟩
        rw [upd_self cur row target (by rw [hc0, ht])]
        exact hi
      have HRES : Hid (SetR ss f sz cur row target ss f sz) := hres
      have HST : Hid (RlSt S w rb ss sn f sz) := h
      clear hi hpos nR nL nf hres hp hp0 ht hc0 h
      go_enter Try.func20, Try.ntmps20
      go_wp2
      go_end0
      exact ⟨rfl, Foot.refl _ _, ss, f, sz, RlSt.more HST.out (by omega) (fun _ e => .inl e), HRES.out⟩
    · have e2 : ((target : Int) != 0) = true := by rw [bne_iff_ne]; omega
      have HC : Hid _ := add_any S w rb ss sn sz f row target h hi.shape hl hsn hr hv ht (nR _) (nL _) nf
      have HADD : Hid (∀ ss' f' sz', (flat ss').length ≤ (flat ss).length + 2 → Added ss f sz row target ss' f' sz' → SetR ss f sz cur row target ss' f' sz') := fun ss' f' sz' hl hd => setR_add hi hr hc0 hv ht hl hd
      clear hi hpos nR nL nf hp hp0 ht hc0 h
      go_enter Try.func20, Try.ntmps20
      go_wp2_with fail
      refine Calls.mono HC.out ?_
      rintro e w1 ⟨rfl, hF, ss', f', sz', b1, b2, b3⟩
      have hres := HADD.out ss' f' sz' b2 b3
      have HRES : Hid (SetR ss f sz cur row target ss' f' sz') := hres
      have HB1 : Hid (RlSt (fun k => S k ∨ w.heap.size ≤ k) w1 rb ss' (sn + 1) f' sz') := b1
      clear b1 b2 b3 hres
      go_wp2
      go_end0
      exact ⟨rfl, hF, ss', f', sz', HB1.out, HRES.out⟩
  · have e1 : ((prev : Int) != 0) = true := by rw [bne_iff_ne]; omega
    have hheld : inRuns ss row prev ∨ inList ss row prev ∨ f row = 2 ^ prev := by
      rcases hi.all row hr (by rw [hp]; exact hp0) with c | c | c
      · exact .inl (hp ▸ c)
      · exact .inr (.inl (hp ▸ c))
      · exact .inr (.inr (by rw [← hp]; exact (hi.spl row c).1))
    have HC : Hid _ := drop_any S w rb ss sn sz f row prev h hi.shape hl hsz hr hvp hp0 hi.far hheld
    have HDROP : Hid (∀ ss' f' sz', (flat ss').length ≤ (flat ss).length → Dropped ss f sz row prev ss' f' sz' → SetR ss f sz cur row 0 ss' f' sz') := fun ss' f' sz' hl hd => setR_drop hi hr hp hp0 hpos hl hd
    by_cases ht : target = 0
    · have e2 : ((target : Int) != 0) = false := by rw [ht]; rfl
      have HT : Hid (target = 0) := ht
      clear hi hpos hp hp0 ht h hheld
      go_enter Try.func20, Try.ntmps20
      go_wp2_with fail
      refine Calls.mono HC.out ?_
      rintro e w1 ⟨rfl, hF, ss', f', sz', b1, b2, b3⟩
      have HRES : Hid (SetR ss f sz cur row 0 ss' f' sz') := HDROP.out ss' f' sz' b2 b3
      have HB1 : Hid (RlSt (fun k => S k ∨ w.heap.size ≤ k) w1 rb ss' sn f' sz') := b1
      clear b1 b2 b3
      go_wp2
      go_end0
      exact ⟨rfl, hF, ss', f', sz', RlSt.more HB1.out (by omega) (fun _ e => e), HT.out ▸ HRES.out⟩
    · have e2 : ((target : Int) != 0) = true := by rw [bne_iff_ne]; omega
      have HT : Hid (target ≠ 0) := ht
      clear hi hpos hp hp0 ht h hheld
      go_enter Try.func20, Try.ntmps20
      go_wp2_with fail
      refine Calls.mono HC.out ?_
      rintro e w1 ⟨rfl, hF, ss1, f1, sz1, b1, b2, b3⟩
      have hres := HDROP.out ss1 f1 sz1 b2 b3
      obtain ⟨nR, nL, nf⟩ := not_held hres.1 hr (upd_same cur row 0)
      have HC2 : Hid _ := add_any _ w1 rb ss1 sn sz1 f1 row target b1 hres.1.shape (by omega) hsn hr hv HT.out (nR _) (nL _) nf
      have HADD : Hid (∀ ss' f' sz', (flat ss').length ≤ (flat ss1).length + 2 → Added ss1 f1 sz1 row target ss' f' sz' → SetR ss f sz cur row target ss' f' sz') := fun ss' f' sz' hl' hd => setR_comp hres b2 (setR_add hres.1 hr (upd_same cur row 0) hv HT.out hl' hd)
      clear b1 b2 b3 hres nR nL nf
      go_wp2_with fail
      refine Calls.mono HC2.out ?_
      rintro e w2 ⟨rfl, hF2, ss', f', sz', b1, b2, b3⟩
      have HRES : Hid (SetR ss f sz cur row target ss' f' sz') := HADD.out ss' f' sz' b2 b3
      have HB1 : Hid (RlSt _ w2 rb ss' (sn + 1) f' sz') := b1
      clear b1 b2 b3
      go_wp2
      go_end0
      have hsz1 := hF.size
      refine ⟨rfl, hF.trans hF2 (fun i hi' e => ?_), ss', f', sz', RlSt.more HB1.out (Nat.le_refl _) (fun k e => ?_), HRES.out⟩
      · rcases e with e | e
        · exact e
        · omega
      · rcases e with (e | e) | e
        · exact .inl e
        · exact .inr e
        · exact .inr (by omega)

set_option maxHeartbeats 600000 in
theorem zzset_any (S : Nat → Prop) (w : World) (rb : Nat) (ss : List Seg) (sn sz : Nat) (f cur : Nat → Nat) (row prev target : Nat) (h : RlSt S w rb ss sn f sz) (hi : Inv ss f cur) (hpos : f row ≠ 0 → 1 ≤ sz) (hl : (flat ss).length ≤ 99990) (hsn : sn ≤ 1000000) (hsz : sz ≤ 1000000) (hr : row < 4294967296)
    (hp : cur row = prev) (hv : okMode target) :
    Calls Try.prog 10 #[.pointer (some ⟨rb, 0, none⟩), .int .u32 row, .int .u8 prev, .int .u8 target] w fun e w' => e = .returned (.tuple #[]) ∧ Foot S w w' ∧ ∃ ss' f' sz', RlSt (fun k => S k ∨ w.heap.size ≤ k) w' rb ss' (sn + 1) f' sz' ∧ SetR ss f sz cur row target ss' f' sz' := by
  have HC : Hid _ := set_any S w rb ss sn sz f cur row prev target h hi hpos hl hsn hsz hr hp hv
  clear hi hpos hp h
  go_enter Try.func10, Try.ntmps10
  go_wp2_with fail
  refine Calls.mono HC.out ?_
  rintro e w1 ⟨rfl, hF, ss', f', sz', b1, b2⟩
  have HRES : Hid (SetR ss f sz cur row target ss' f' sz') := b2
  have HB1 : Hid (RlSt (fun k => S k ∨ w.heap.size ≤ k) w1 rb ss' (sn + 1) f' sz') := b1
  clear b1 b2
  go_wp2
  go_end0
  exact ⟨rfl, hF, ss', f', sz', HB1.out, HRES.out⟩
end Go.Proofs.Qxb6605852a
