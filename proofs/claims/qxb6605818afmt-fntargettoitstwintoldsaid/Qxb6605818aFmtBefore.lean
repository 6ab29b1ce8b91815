import Derived.Test.Qxb6605818aFmtOwn
namespace Go.Proofs.Qxb6605818aFmt
open Go.RowKit Go.Maps
set_option linter.unusedVariables false

/-- A map of slices of strings that the call builds: key x holds slice gf x, its strings gl x. -/
structure Groups (base : Nat) (w : World) (mb n : Nat) (gf : ByteArray → Value) (gl : ByteArray → List ByteArray) : Prop where
  lo : base ≤ mb
  mp : ∃ hs, MapK Value.string strKey 9 (.slice none 0 0) w mb n gf hs
  own : ∀ x, Own base 9 w (gf x) ((gl x).map Value.string)
  sep : ∀ x y, x ≠ y → ∀ b, (gf x).ownBlock = some b → (gf y).ownBlock ≠ some b

theorem pair_cells {w : World} {p la k : Nat} {f g : Nat → ByteArray} (h : w.rowIs p 72 (la * 2) (pairV f g)) (hk : k < la) : w.cell? ⟨p, k * 2, none⟩ = some (.string (f k)) ∧ w.cell? ⟨p, k * 2 + 1, none⟩ = some (.string (g k)) := by
  have h1 := h.cell (i := k * 2) (by omega)
  have h2 := h.cell (i := k * 2 + 1) (by omega)
  unfold pairV at h1 h2
  rw [if_pos (by omega), show k * 2 / 2 = k by omega] at h1
  rw [if_neg (by omega), show (k * 2 + 1) / 2 = k by omega] at h2
  exact ⟨h1, h2⟩

theorem step_app {P : Program} {ops : Array Oper} {o : Oper} {a : Act} {w : World} {K : Act → World → Prop} {Q : Exit → Act → World → Prop} {E : Prop} (hg : o.guard = none) (s x : Operand) (t : TypeId) (hop : o.op = Op.call { callee := Callee.builtin Builtin.append, args := #[s, x], argTypes := #[t, t] })
    (v1 v2 v : Value) (w1 : World) (hs : a.eval s = v1) (hx : a.eval x = v2) (hrun : ∀ ty, (Builtin.append_ #[t, t] ty #[v1, v2]).run P w = .ok v w1) (hK : K (a.put o.dst v) w1) :
    if Region.wanted o (yielded ops a.tmps) = true then Oper.wp P o a w K Q else E := by
  have hw : Region.wanted o (yielded ops a.tmps) = true := by simp [Region.wanted, hg]
  rw [if_pos hw]
  unfold Oper.wp
  simp [execOp, hop, resolve, invoke, builtin, hs, hx, hrun, Result.andThen]
  exact hK

theorem foot_drew (S : Nat → Prop) (w : World) : Foot S w w.drew := (Foot.refl S w).drew

/-- One more string at key s1. -/
theorem groups_step {base : Nat} {w : World} {mb n : Nat} {gf : ByteArray → Value} {gl : ByteArray → List ByteArray} (h : Groups base w mb n gf gl) (hb : base ≤ w.heap.size) (hn : n ≤ 1000000) (s0 s1 : ByteArray) (hk : strKey s1) (hl : (gl s1).length ≤ 1000000) :
    ∃ v' w2 w3, (∀ ty, (Builtin.append_ #[22, 22] ty #[gf s1, .slice (some ⟨w.heap.size, 0, none⟩) 1 1]).run Tryf.prog (w.alloc (.cells #[.string s0] 9)) = .ok v' w2) ∧
      (Instr.mapUpdate 89 (.map (some mb)) (.string s1) v').run Tryf.prog w2 = .ok () w3 ∧ Groups base w3 mb (n + 1) (upd gf s1 v') (upd gl s1 (gl s1 ++ [s0])) ∧ Foot (fun k => base ≤ k) w w3 ∧ Foot (fun k => (gf s1).ownBlock = some k) w w2 ∧ Foot (fun k => k = mb) w2 w3 ∧ (∀ b, (gf s1).ownBlock = some b → ∃ cur, w.heap[b]? = some (.cells cur 9 (0, 0))) := by
  obtain ⟨hs, hM⟩ := h.mp
  obtain ⟨v', w2, e1, e2, e3, e4, e5⟩ := app1 (T := 22) _ _ Tryf.underlying22 info9 rfl (by omega) (h.own s1) (.string s0) rfl (by simp; omega) hb
  have hne : ∀ b, (gf s1).ownBlock = some b → b ≠ mb := fun b hb => (h.own s1).ne_map hb hM
  have hM2 := hM.kept e3 (fun e => hne mb e rfl)
  obtain ⟨w3, p1, p2, p3⟩ := hM2.put law9 str_inj u89 (by unfold maxLen; omega) s1 hk v'
  have hmlt := hM.lt
  have hsz := e3.size
  refine ⟨v', w2, w3, e1, p1, ⟨h.lo, ⟨_, p2⟩, fun x => ?_, fun x y hxy b hb1 hb2 => ?_⟩, ?_, e3, p3, fun b hb => (h.own s1).heap hb⟩
  · by_cases hx : x = s1
    · subst hx
      rw [upd_same, upd_same, List.map_append]
      refine e2.kept p3 (fun b hb e => ?_)
      subst e
      exact e2.ne_map hb hM2 rfl
    · rw [upd_other _ _ hx, upd_other _ _ hx]
      refine ((h.own x).kept e3 (fun b hb e => h.sep x s1 hx b hb e)).kept p3 (fun b hb e => ?_)
      subst e
      exact (h.own x).ne_map hb hM rfl
  · by_cases hx : x = s1
    · subst hx
      rw [upd_same] at hb1
      rw [upd_other _ _ (fun e => hxy e.symm)] at hb2
      rcases e4 with e | e
      · rw [e] at hb1
        exact h.sep x y hxy b hb1 hb2
      · rw [e] at hb1
        cases hb1
        have := ((h.own y).lt hb2).2
        omega
    · rw [upd_other _ _ hx] at hb1
      by_cases hy : y = s1
      · subst hy
        rw [upd_same] at hb2
        rcases e4 with e | e
        · rw [e] at hb2
          exact h.sep x y hxy b hb1 hb2
        · rw [e] at hb2
          cases hb2
          have := ((h.own x).lt hb1).2
          omega
      · rw [upd_other _ _ hy] at hb2
        exact h.sep x y hxy b hb1 hb2
  · refine (e3.mono (fun i _ e => ((h.own s1).lt e).1)).trans p3 (fun i _ e => ?_)
    subst e
    exact h.lo

set_option maxRecDepth 100000 in
set_option maxHeartbeats 2000000 in
theorem directlyBefore_any (nm : ByteArray) (mv : Value) (p la : Nat) (f g : Nat → ByteArray) (w : World) (hla : la ≤ 4096) (hm1 : mv.oneCell' = true) (h : w.rowIs p 72 (la * 2) (pairV f g)) (hk : ∀ i, i < la → strKey (g i)) :
    Calls Tryf.prog 31 #[.agg #[.string nm, mv, .slice (some ⟨p, 0, none⟩) la la]] w fun e w' => ∃ mb n gf gl, e = .returned (.map (some mb)) ∧ Groups w.heap.size w' mb n gf gl ∧ (∀ x, ∀ y ∈ gl x, ∃ i, i < la ∧ y = f i) ∧ (∀ x, (gl x).length ≤ la) ∧ Below w.heap.size w w' := by
  have H : Hid (w.rowIs p 72 (la * 2) (pairV f g)) := h
  have HK : Hid (∀ i, i < la → strKey (g i)) := hk
  have hli : (la : Int) ≤ 4096 := by omega
  have hmm := @run_makeMap Tryf.prog
  have hpl := h.lt
  clear h hk
  go_enter Tryf.func31, Tryf.ntmps31
  go_wp2
  go_loopw [10] (fun i wr => ∃ k : Nat, k ≤ la ∧ i = .int .i64 k ∧ ∃ gf gl, Hid (Groups w.heap.size wr (w.heap.size + 1) k gf gl) ∧ Hid ((∀ x, ∀ y ∈ gl x, ∃ i, i < la ∧ y = f i) ∧ ∀ x, (gl x).length ≤ k) ∧ Hid (Below w.heap.size w wr)) (fun i _ => la - (intOf i).toNat)
  case atStart =>
    refine ⟨0, Nat.zero_le _, rfl, fun _ => .slice none 0 0, fun _ => [], ⟨by omega, ⟨fun _ => false, ?_⟩, fun x => Own.nil _ _ _, fun x y _ b hb => ?_⟩, ⟨fun x y hy => by simp at hy, fun x => by simp⟩, ?_⟩
    · have := MapK.made (kv := Value.string) (dom := strKey) (KT := 9) (z := .slice none 0 0) (w.alloc (.cells #[.string nm, mv, .slice (some ⟨p, 0, none⟩) la la] 43)) strKey_ok
      have e : (w.alloc (.cells #[.string nm, mv, .slice (some ⟨p, 0, none⟩) la la] 43)).heap.size = w.heap.size + 1 := by simp
      rw [e] at this
      exact this
    · simp [Value.ownBlock] at hb
    · exact ((Below.refl _ _).alloc (Nat.le_refl _) _).alloc (by simp) _
  case round =>
    obtain ⟨k, hkl, rfl, gf, gl, HG, HL, HB⟩ := hrel
    by_cases hlt : k < la
    · obtain ⟨c1, c2⟩ := pair_cells (rowIs_below H.out HB.out) hlt
      obtain ⟨s0, hs0⟩ : ∃ s0, f k = s0 := ⟨_, rfl⟩
      obtain ⟨s1, hs1⟩ : ∃ s1, g k = s1 := ⟨_, rfl⟩
      have hk1 : strKey s1 := hs1 ▸ HK.out k hlt
      rw [hs0] at c1
      rw [hs1] at c2
      have HS0 : Hid (f k = s0) := hs0
      have hlti : (k : Int) < (la : Int) := by omega
      clear hs0 hs1
      go_wp2
      obtain ⟨w1, hw1⟩ : ∃ w1, wr.alloc (.cells #[.string s0, .string s1] 72) = w1 := ⟨_, rfl⟩
      obtain ⟨pb, hpb⟩ : ∃ pb, wr.heap.size = pb := ⟨_, rfl⟩
      have hsz := HB.out.size
      have hml : w.heap.size + 1 < wr.heap.size := by
        obtain ⟨hs, hM⟩ := HG.out.mp
        exact hM.lt
      have hFr : Foot (fun _ => False) wr w1.drew := by rw [← hw1]; exact (Foot.alloc _ _ _).drew
      have hblk : w1.heap[pb]? = some (.cells #[.string s0, .string s1] 72 (0, 0)) := by rw [← hw1, ← hpb]; exact heap_alloc_new _ _
      have hs1 : w1.heap.size = pb + 1 := by rw [← hw1, ← hpb]; simp
      rw [hw1, hpb]
      have hG1 : Groups w.heap.size w1.drew (w.heap.size + 1) k gf gl := by
        obtain ⟨hs, hM⟩ := HG.out.mp
        exact ⟨by omega, ⟨hs, hM.kept hFr id⟩, fun x => (HG.out.own x).kept hFr (fun _ _ => id), HG.out.sep⟩
      obtain ⟨v', w2, w3, e1, e2, e3, e4, e5, e6, e7⟩ := groups_step hG1 (by show _ ≤ w1.heap.size; omega) (by omega) s0 s1 hk1 (by have := HL.out.2 s1; omega)
      have hsd : w1.drew.heap.size = pb + 1 := hs1
      rw [hsd] at e1
      obtain ⟨V, hV⟩ : ∃ V, gf s1 = V := ⟨_, rfl⟩
      have hlk : (Instr.lookup 89 (.map (some (w.heap.size + 1))) (.string s1) false).run Tryf.prog w1.drew = .ok V w1.drew := by
        obtain ⟨hs, hM⟩ := hG1.mp
        rw [← hV]
        exact hM.look law9 u89 (zero22 _) s1 hk1
      have hlk2 : (Instr.lookup 89 (.map (some (w.heap.size + 1))) (.string s1) false).run Tryf.prog (w1.alloc (.cells #[.string s0] 9)).drew = .ok V (w1.alloc (.cells #[.string s0] 9)).drew := by
        obtain ⟨hs, hM⟩ := hG1.mp
        rw [← hV]
        exact (hM.kept (w' := (w1.alloc (.cells #[.string s0] 9)).drew) (Foot.alloc (fun _ => False) w1.drew _) id).look law9 u89 (zero22 _) s1 hk1
      have a1 : w1.drew.cell? ⟨pb, 0, none⟩ = some (.string s0) ∧ w1.drew.cell? ⟨pb, 1, none⟩ = some (.string s1) := by
        rw [World.cell?_drew, World.cell?_drew]
        simp [World.cell?, hblk]
      have hFA : Foot (fun _ => False) w1.drew (w1.alloc (.cells #[.string s0] 9)).drew := Foot.alloc _ w1.drew _
      have a2 : (w1.alloc (.cells #[.string s0] 9)).drew.cell? ⟨pb, 0, none⟩ = some (.string s0) ∧ (w1.alloc (.cells #[.string s0] 9)).drew.cell? ⟨pb, 1, none⟩ = some (.string s1) := ⟨hFA.cell a1.1 id, hFA.cell a1.2 id⟩
      have hpn : ∀ b, (gf s1).ownBlock = some b → b ≠ pb := fun b hb e => by
        obtain ⟨cur, h1⟩ := e7 b hb
        subst e
        have h2 : w1.drew.heap[b]? = some (.cells #[.string s0, .string s1] 72 (0, 0)) := hblk
        rw [h2] at h1
        simp at h1
      have a3 : w2.cell? ⟨pb, 0, none⟩ = some (.string s0) ∧ w2.cell? ⟨pb, 1, none⟩ = some (.string s1) := ⟨e5.cell a1.1 (fun e => hpn pb e rfl), e5.cell a1.2 (fun e => hpn pb e rfl)⟩
      have a4 : w3.cell? ⟨pb, 0, none⟩ = some (.string s0) ∧ w3.cell? ⟨pb, 1, none⟩ = some (.string s1) := ⟨e6.cell a3.1 (by show ¬ pb = _; omega), e6.cell a3.2 (by show ¬ pb = _; omega)⟩
      rw [hV] at e1
      have e1 : ∀ ty, (Builtin.append_ #[22, 22] ty #[V, .slice (some ⟨pb + 1, 0, none⟩) 1 1]).run Tryf.prog (w1.alloc (.cells #[.string s0] 9)).drew = .ok v' w2 := e1
      have E3 : Hid (Groups w.heap.size w3 (w.heap.size + 1) (k + 1) (upd gf s1 v') (upd gl s1 (gl s1 ++ [s0]))) := e3
      have E4 : Hid (Below w.heap.size w w3) := (HB.out.trans ((hFr.below hsz (fun k e => e.elim)))).trans (e4.below (by show _ ≤ w1.heap.size; omega) (fun k e => e))
      clear e3 e4 e5 e6 e7 hpn hFA hblk hG1 hFr hw1 hpb hV hsd hml
      go_region_held3 (fun w' => w'.cell? ⟨pb, 0, none⟩ = some (.string s0) ∧ w'.cell? ⟨pb, 1, none⟩ = some (.string s1)) (first | exact a1 | exact a2 | exact a3 | exact a4)
        (first | (at_builtin; refine step_app rfl (.tmp 20) (.tmp 23) 22 rfl _ _ _ _ rfl rfl e1 ?_) | (refine step_app rfl (.tmp 20) (.tmp 23) 22 rfl _ _ _ _ rfl rfl e1 ?_))
      all_goals
        go_wp2
        refine ⟨⟨k + 1, by omega, by go_num, _, _, E3, ⟨fun x y hy => ?_, fun x => ?_⟩, E4⟩, ?_⟩
        · by_cases e : x = s1
          · subst e
            rw [upd_same] at hy
            rcases List.mem_append.1 hy with hy | hy
            · exact HL.out.1 x y hy
            · simp only [List.mem_singleton] at hy
              exact ⟨k, hlt, by rw [hy, HS0.out]⟩
          · rw [upd_other _ _ e] at hy
            exact HL.out.1 x y hy
        · by_cases e : x = s1
          · subst e
            rw [upd_same, List.length_append, List.length_singleton]
            have := HL.out.2 x
            omega
          · rw [upd_other _ _ e]
            have := HL.out.2 x
            omega
        · simp [intOf]; omega
    · obtain rfl : la = k := by omega
      go_wp2
      go_ret
      exact ⟨_, _, gf, gl, rfl, HG.out, HL.out.1, HL.out.2, HB.out⟩
end Go.Proofs.Qxb6605818aFmt
