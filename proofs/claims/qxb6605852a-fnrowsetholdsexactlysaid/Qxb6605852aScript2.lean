import Derived.Test.Qxb6605852aScript
namespace Go.Proofs.Qxb6605852a
open Go.RowKit Go.Shelf
set_option linter.unusedVariables false

/-- The blocks that may be the rowLocks' own: at B or behind, but for the model's map and the touched rows. -/
def mine (B k : Nat) : Prop := B ≤ k ∧ k ≠ B + 1 ∧ k ≠ B + 2

/-- What lies in memory after n rounds. -/
structure Scr (B : Nat) (w : World) (C n : Nat) (T : List Nat) (ss : List Seg) (f : Nat → Nat) (sz : Nat) (cur : Nat → Nat) (hs : Nat → Bool) : Prop where
  rl : RlSt (mine B) w B ss n f sz
  mp : ∃ sm, MapF 30 5 .u8 w (B + 1) n cur hs sm
  tc : Tch w (B + 2) C T
  pl : Played ss f sz cur hs T n

/-- .. and between the append and the set. -/
structure Mid (B : Nat) (w : World) (C n : Nat) (T : List Nat) (ss : List Seg) (f : Nat → Nat) (sz : Nat) (cur : Nat → Nat) (hs : Nat → Bool) : Prop where
  rl : RlSt (mine B) w B ss n f sz
  mp : ∃ sm, MapF 30 5 .u8 w (B + 1) n cur hs sm
  tc : Tch w (B + 2) C T

section
variable {B : Nat} {w w' : World} {C n : Nat} {T : List Nat} {ss : List Seg} {f : Nat → Nat} {sz : Nat} {cur : Nat → Nat} {hs : Nat → Bool}

theorem Scr.more (h : Scr B w C n T ss f sz cur hs) {n' : Nat} (hn : n ≤ n') : Scr B w C n' T ss f sz cur hs := by
  obtain ⟨sm, hm⟩ := h.mp
  exact ⟨h.rl.more hn (fun _ e => e), ⟨sm, hm.mono hn⟩, h.tc, h.pl.more hn⟩

theorem Scr.mid (h : Scr B w C n T ss f sz cur hs) : Mid B w C n T ss f sz cur hs := ⟨h.rl, h.mp, h.tc⟩

theorem Scr.touch (h : Scr B w C n T ss f sz cur hs) (r : Nat) (hroom : T.length < C) :
    ∃ w', (∀ ty, (Builtin.append_ #[22, 22] ty #[.slice (some ⟨B + 2, 0, none⟩) T.length C, .slice (some ⟨w.heap.size, 0, none⟩) 1 1]).run Try.prog (w.alloc (.cells #[.int .u32 (r : Int)] 24)) = .ok (.slice (some ⟨B + 2, 0, none⟩) (T.length + 1) C) w') ∧ Mid B w' C n (T ++ [r]) ss f sz cur hs ∧ Foot (fun k => k = B + 2) w w' := by
  obtain ⟨w', h1, h2, h3⟩ := tch_append w (B + 2) C r T h.tc hroom
  obtain ⟨sm, hm⟩ := h.mp
  exact ⟨w', h1, ⟨h.rl.kept h3 (fun k hk e => hk.2.2 e), ⟨sm, hm.kept h3 (by omega)⟩, h2⟩, h3⟩

theorem Mid.look (h : Mid B w C n T ss f sz cur hs) (r : Nat) (hr : r < 4294967296) :
    (Instr.lookup 30 (.map (some (B + 1))) (.int .u32 (r : Int)) true).run Try.prog w = .ok (.tuple #[.int .u8 (cur r : Int), .bool (hs r)]) w := by
  obtain ⟨sm, hm⟩ := h.mp
  exact hm.look_ok u30 u5 (zero5 w) (by decide) r hr
theorem Mid.look1 (h : Mid B w C n T ss f sz cur hs) (r : Nat) (hr : r < 4294967296) :
    (Instr.lookup 30 (.map (some (B + 1))) (.int .u32 (r : Int)) false).run Try.prog w = .ok (.int .u8 (cur r : Int)) w := by
  obtain ⟨sm, hm⟩ := h.mp
  exact hm.look u30 u5 (zero5 w) r hr

/-- The set, as a call. -/
theorem Mid.set (h : Mid B w C n T ss f sz cur hs) {T0 : List Nat} (hp : Played ss f sz cur hs T0 n) (r m : Nat) (hr : r < 4294967296) (hm : okMode m) (hn : n ≤ 4096) (hB : B + 2 < w.heap.size) :
    Calls Try.prog 10 #[.pointer (some ⟨B, 0, none⟩), .int .u32 r, .int .u8 (cur r), .int .u8 m] w fun e w' => e = .returned (.tuple #[]) ∧ Foot (mine B) w w' ∧ ∃ ss' f' sz', SetR ss f sz cur r m ss' f' sz' ∧ RlSt (mine B) w' B ss' (n + 1) f' sz' ∧ (∃ sm, MapF 30 5 .u8 w' (B + 1) n cur hs sm) ∧ Tch w' (B + 2) C T := by
  have hsz := hp.sz
  have hlen := hp.len
  refine (zzset_any (mine B) w B ss n sz f cur r (cur r) m h.rl hp.inv (hp.pos r) (by omega) (by omega) (by omega) hr rfl hm).mono ?_
  rintro e w' ⟨rfl, hF, ss', f', sz', b1, b2⟩
  obtain ⟨sm, hmp⟩ := h.mp
  refine ⟨rfl, hF, ss', f', sz', b2, b1.more (Nat.le_refl _) (fun k e => ?_), ⟨sm, hmp.kept hF (fun e => e.2.1 rfl)⟩, h.tc.kept hF (fun e => e.2.2 rfl)⟩
  rcases e with e | e
  · exact e
  · exact ⟨by omega, by omega, by omega⟩

/-- The model's own store. -/
theorem scr_put {ss' : List Seg} {f' : Nat → Nat} {sz' r m : Nat} (hp : Played ss f sz cur hs T n) (hr : r < 4294967296) (hm : okMode m) (hn : n ≤ 4096) (hS : SetR ss f sz cur r m ss' f' sz')
    (h1 : RlSt (mine B) w B ss' (n + 1) f' sz') (h2 : ∃ sm, MapF 30 5 .u8 w (B + 1) n cur hs sm) (h3 : Tch w (B + 2) C (touch hs T r)) :
    ∃ w', (Instr.mapUpdate 30 (.map (some (B + 1))) (.int .u32 (r : Int)) (.int .u8 (m : Int))).run Try.prog w = .ok () w' ∧ Scr B w' C (n + 1) (touch hs T r) ss' f' sz' (upd cur r m) (upd hs r true) ∧ Foot (fun k => k = B + 1) w w' := by
  obtain ⟨sm, hmp⟩ := h2
  have hm256 : m < 256 := by unfold okMode at hm; omega
  obtain ⟨w', e1, e2, e3⟩ := hmp.put u30 u5 (by unfold maxLen; omega) r m hr (wf_u8 hm256)
  exact ⟨w', e1, ⟨h1.kept e3 (fun k hk e => hk.2.1 e), ⟨_, e2⟩, h3.kept e3 (by omega), played_step hp hr hS⟩, e3⟩
end

/-- The first of all. -/
theorem scr_start (w : World) (K : Nat) (hK : K ≤ 4096) :
    Scr w.heap.size (((w.alloc (.cells #[.slice none 0 0, .map none] 52)).alloc (.map #[] 0)).alloc (.cells (zrowK .u32 (K + 1)) 24)) (K + 1) 0 [] [] (fun _ => 0) 0 (fun _ => 0) (fun _ => false) := by
  have hF2 : Foot (fun _ => False) (w.alloc (.cells #[.slice none 0 0, .map none] 52)) ((w.alloc (.cells #[.slice none 0 0, .map none] 52)).alloc (.map #[] 0)) := Foot.of_below ((Below.refl _ _).alloc (Nat.le_refl _) _)
  have hF3 : Foot (fun _ => False) ((w.alloc (.cells #[.slice none 0 0, .map none] 52)).alloc (.map #[] 0)) (((w.alloc (.cells #[.slice none 0 0, .map none] 52)).alloc (.map #[] 0)).alloc (.cells (zrowK .u32 (K + 1)) 24)) := Foot.of_below ((Below.refl _ _).alloc (Nat.le_refl _) _)
  have hR : RlAt (w.alloc (.cells #[.slice none 0 0, .map none] 52)) w.heap.size (.slice none 0 0) (.map none) := by
    unfold RlAt
    show (w.heap.push _)[w.heap.size]? = _
    simp
  have hM := MapF.made (T := 30) (E := 5) (q := .u8) (w.alloc (.cells #[.slice none 0 0, .map none] 52))
  have hT := tch_new ((w.alloc (.cells #[.slice none 0 0, .map none] 52)).alloc (.map #[] 0)) (K + 1) (by omega)
  have e1 : (w.alloc (.cells #[.slice none 0 0, .map none] 52)).heap.size = w.heap.size + 1 := by simp
  have e2 : ((w.alloc (.cells #[.slice none 0 0, .map none] 52)).alloc (.map #[] 0)).heap.size = w.heap.size + 2 := by simp
  rw [e1] at hM
  rw [e2] at hT
  refine ⟨⟨⟨.slice none 0 0, .map none, (hR.kept hF2 (fun e => e)).kept hF3 (fun e => e), .inl ⟨rfl, rfl⟩, .inl ⟨rfl, fun _ => rfl, rfl⟩, fun b hb => ?_, fun b hb => ?_⟩, ⟨Nat.le_refl _, by omega, by omega⟩⟩, ⟨0, hM.kept hF3 (fun e => e)⟩, hT, played_none⟩
  · simp [Value.ownBlock] at hb
  · simp [mapBlock?] at hb
end Go.Proofs.Qxb6605852a
