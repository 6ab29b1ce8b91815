import Derived.Test.Qxb6605818aFmtPlace2
import Derived.Laws.EntriesVeiled
namespace Go.Proofs.Qxb6605818aFmt
open Go.RowKit Go.Maps
set_option linter.unusedVariables false

theorem place_any (w0 : World) (B bm : Nat) (ul : List ByteArray) (hB : B = w0.heap.size) (hbr : BefR w0 bm ul) (hu : ul.length ≤ 4096) (hkey : ∀ x ∈ ul, strKey x) : ∀ m, PlaceIH w0 B bm ul m := by
  intro m
  induction m with
  | zero =>
    intro w pv qv path seq st n id h hI hW hul hm
    have h3 : st id = 0 ∨ st id = 1 ∨ st id = 2 := by have := hI.two id; omega
    rcases h3 with h0 | h1 | h2
    · have := unseen_mark ul st id 1 (by omega) hul h0
      omega
    · exact place_cycle B bm ul w pv qv path seq st n id h hI (hkey id hul) hul hu h1
    · exact place_done B bm ul w pv qv path seq st n id h hI (hkey id hul) h2
  | succ m ih =>
    intro w pv qv path seq st n id h hI hW hul hm
    have h3 : st id = 0 ∨ st id = 1 ∨ st id = 2 := by have := hI.two id; omega
    rcases h3 with h0 | h1 | h2
    · exact place_new w0 B bm ul hB hbr hu hkey m ih w pv qv path seq st n id h hI hW hul hm h0
    · exact place_cycle B bm ul w pv qv path seq st n id h hI (hkey id hul) hul hu h1
    · exact place_done B bm ul w pv qv path seq st n id h hI (hkey id hul) h2

theorem makeS0 (n : Nat) (h : n ≤ 2000000) (w : World) : (Instr.makeSlice 22 (.int .i64 0) (.int .i64 (n : Int))).run Tryf.prog w = .ok (.slice (some ⟨w.heap.size, 0, none⟩) 0 n) (w.alloc (.cells (madeCells #[.string ⟨#[]⟩] n) 9)) := by
  obtain ⟨i, hi, hz, h1, h2⟩ := info_parts info9
  have := run_make (P := Tryf.prog) w 22 9 i _ Tryf.underlying22 hi hz .i64 .i64 0 (n : Int) (by omega) (by omega) (by rw [h2]; omega) (by omega)
  rw [this, h1, Int.toNat_natCast, Nat.mul_one]
  rfl

/-- A slice of strings, all of them in ul, that can be read; at most N. -/
def Names (w : World) (v : Value) (ul : List ByteArray) (N : Nat) : Prop := ∃ (a : Option Addr) (l c : Nat) (t : Nat → ByteArray), v = .slice a l c ∧ l ≤ N ∧ l ≤ c ∧ Sl w a l (strV t) ∧ (∀ i, i < l → t i ∈ ul) ∧ (∀ x, a = some x → x = ⟨x.block, 0, none⟩ ∧ x.block < w.heap.size) ∧ (a = none → l = 0 ∧ c = 0)

theorem at_new (w : World) (o : Obj) {n : Nat} (h : w.heap.size = n) : (w.alloc o).heap[n]? = some o := by subst h; exact heap_alloc_new _ _
theorem at_old (w : World) (o : Obj) {n : Nat} {x : Obj} (h : w.heap[n]? = some x) : (w.alloc o).heap[n]? = some x := (Below.heap_alloc w o n (block_lt h)).trans h
def w7 (w : World) (o0 o1 o2 o3 o4 o5 o6 : Obj) : World := ((((((w.alloc o0).alloc o1).alloc o2).alloc o3).alloc o4).alloc o5).alloc o6
theorem w7_blocks (w : World) (o0 o1 o2 o3 o4 o5 o6 : Obj) : (w7 w o0 o1 o2 o3 o4 o5 o6).heap[w.heap.size]? = some o0 ∧ (w7 w o0 o1 o2 o3 o4 o5 o6).heap[w.heap.size + 1]? = some o1 ∧ (w7 w o0 o1 o2 o3 o4 o5 o6).heap[w.heap.size + 2]? = some o2 ∧ (w7 w o0 o1 o2 o3 o4 o5 o6).heap[w.heap.size + 3]? = some o3 ∧ (w7 w o0 o1 o2 o3 o4 o5 o6).heap[w.heap.size + 4]? = some o4 ∧ (w7 w o0 o1 o2 o3 o4 o5 o6).heap[w.heap.size + 5]? = some o5 ∧ (w7 w o0 o1 o2 o3 o4 o5 o6).heap[w.heap.size + 6]? = some o6 := by
  have z1 : (w.alloc o0).heap.size = w.heap.size + 1 := by simp
  have z2 : ((w.alloc o0).alloc o1).heap.size = w.heap.size + 2 := by simp
  have z3 : (((w.alloc o0).alloc o1).alloc o2).heap.size = w.heap.size + 3 := by simp
  have z4 : ((((w.alloc o0).alloc o1).alloc o2).alloc o3).heap.size = w.heap.size + 4 := by simp
  have z5 : (((((w.alloc o0).alloc o1).alloc o2).alloc o3).alloc o4).heap.size = w.heap.size + 5 := by simp
  have z6 : ((((((w.alloc o0).alloc o1).alloc o2).alloc o3).alloc o4).alloc o5).heap.size = w.heap.size + 6 := by simp
  exact ⟨at_old _ _ (at_old _ _ (at_old _ _ (at_old _ _ (at_old _ _ (at_old _ _ (at_new _ _ rfl)))))), at_old _ _ (at_old _ _ (at_old _ _ (at_old _ _ (at_old _ _ (at_new _ _ z1))))), at_old _ _ (at_old _ _ (at_old _ _ (at_old _ _ (at_new _ _ z2)))), at_old _ _ (at_old _ _ (at_old _ _ (at_new _ _ z3))), at_old _ _ (at_old _ _ (at_new _ _ z4)), at_old _ _ (at_new _ _ z5), at_new _ _ z6⟩
theorem w7_below (w : World) (o0 o1 o2 o3 o4 o5 o6 : Obj) : Below w.heap.size w (w7 w o0 o1 o2 o3 o4 o5 o6) :=
  ((((((((Below.refl _ _).alloc (Nat.le_refl _) _).alloc (by simp) _).alloc (by simp; omega) _).alloc (by simp; omega) _).alloc (by simp; omega) _).alloc (by simp; omega) _).alloc (by simp; omega) _)

theorem row1 {w : World} {b : Nat} {v : Value} {t : TypeId} (h : w.heap[b]? = some (.cells #[v] t (0, 0))) : w.rowIs b t 1 (fun _ => v) :=
  ⟨_, h, rfl, fun i hi => by
    have : i = 0 := by omega
    subst this
    rfl⟩

theorem sort_start (w : World) (bm len : Nat) (hl : len ≤ 4096) :
    SortSt w.heap.size bm (w7 w (.cells #[.map (some bm)] 89) (.cells #[.slice (some ⟨w.heap.size + 4, 0, none⟩) 0 len] 22) (.map #[] 0) (.cells #[.map (some (w.heap.size + 2))] 73) (.cells (madeCells #[.string ⟨#[]⟩] len) 9) (.cells #[.slice none 0 0] 22) (.cells #[clo w.heap.size] 93)) (.slice none 0 0) (.slice (some ⟨w.heap.size + 4, 0, none⟩) 0 len) [] [] (fun _ => 0) 0 := by
  obtain ⟨h0, h1, h2, h3, h4, h5, h6⟩ := w7_blocks w (.cells #[.map (some bm)] 89) (.cells #[.slice (some ⟨w.heap.size + 4, 0, none⟩) 0 len] 22) (.map #[] 0) (.cells #[.map (some (w.heap.size + 2))] 73) (.cells (madeCells #[.string ⟨#[]⟩] len) 9) (.cells #[.slice none 0 0] 22) (.cells #[clo w.heap.size] 93)
  refine ⟨row1 h0, row1 h1, ⟨fun _ => false, ?_⟩, row1 h3, row1 h5, row1 h6, Own.nil _ _ _, ?_, fun b hb => ?_⟩
  · obtain ⟨D, ⟨es, c, k1, k2⟩, k3⟩ := MapK.made (kv := Value.string) (dom := strKey) (KT := 9) (z := .int .i64 0) w strKey_ok
    have e : es = #[] ∧ c = 0 := by
      have h : (w.alloc (.map #[] 0)).heap[w.heap.size]? = some (.map #[] 0) := heap_alloc_new _ _
      rw [h] at k1
      simp at k1
      exact ⟨k1.1, k1.2.symm⟩
    obtain ⟨rfl, rfl⟩ := e
    exact ⟨D, ⟨#[], 0, h2, k2⟩, k3⟩
  · exact ⟨by simp, .inr ⟨_, len, _, rfl, by omega, h4, Nat.zero_le _, by unfold maxLen; omega, by simp [size_madeCells], by simp⟩⟩
  · simp [Value.ownBlock] at hb

theorem pinv_start (ul : List ByteArray) : PInv ul [] [] (fun _ => 0) 0 :=
  ⟨by simp, by simp, by simp, by simp, by have := unseen_le ul (fun _ => 0); simp; exact this, by have := unseen_le ul (fun _ => 0); simp; omega⟩

theorem names_of_own {B : Nat} {w : World} {v : Value} {l : List ByteArray} {ul : List ByteArray} {N : Nat} (h : Own B 9 w v (l.map Value.string)) (hu : ∀ x ∈ l, x ∈ ul) (hN : l.length ≤ N) : Names w v ul N := by
  obtain ⟨a, c, hv, hn, hs⟩ := h.shape
  have hr := (h.reads hv).2
  simp only [List.length_map] at hv hr
  refine ⟨a, l.length, c, fun i => l.getD i ⟨#[]⟩, hv, hN, ?_, hr.congr (fun i hi => ?_), fun i hi => ?_, fun x hx => ?_, fun ha => ?_⟩
  · obtain ⟨_, ⟨h2, h0⟩ | ⟨g', cap, cur, hv', k1, k2, k3, k4, k5, k6⟩⟩ := h
    · have : l.length = 0 := by simpa using h0
      omega
    · rw [hv] at hv'
      simp only [Value.slice.injEq] at hv'
      obtain ⟨_, e1, e2⟩ := hv'
      simp at k3
      omega
  · rw [getD_map_string l i hi]
    show _ = Value.string (l.getD i ⟨#[]⟩)
    simp [List.getD, hi]
  · show l.getD i ⟨#[]⟩ ∈ ul
    have : l.getD i ⟨#[]⟩ = l[i] := by simp [List.getD, hi]
    rw [this]
    exact hu _ (List.getElem_mem hi)
  · obtain ⟨h1, h2⟩ := hs x hx
    exact ⟨h1, (h.lt h2).2⟩
  · obtain ⟨h1, h2⟩ := hn ha
    exact ⟨by simpa using h1, h2⟩

theorem names_nil (w : World) (ul : List ByteArray) (N : Nat) : Names w (.slice none 0 0) ul N := ⟨none, 0, 0, fun _ => ⟨#[]⟩, rfl, Nat.zero_le _, Nat.zero_le _, fun i hi => absurd hi (by omega), fun i hi => absurd hi (by omega), (fun x hx => by cases hx), fun _ => ⟨rfl, rfl⟩⟩

set_option maxRecDepth 100000 in
set_option maxHeartbeats 2000000 in
theorem sortBefore_any (a : Option Addr) (len cap bm : Nat) (s : Nat → ByteArray) (ul : List ByteArray) (w : World) (hl : len ≤ 4096) (hu : ul.length ≤ 4096) (hkey : ∀ x ∈ ul, strKey x) (h : Sl w a len (strV s)) (hs : ∀ i, i < len → s i ∈ ul) (hbr : BefR w bm ul) :
    Calls Tryf.prog 30 #[.slice a len cap, .map (some bm)] w fun e w' => (∃ sv cv, e = .returned (.tuple #[sv, cv]) ∧ Names w' sv ul 5000 ∧ Names w' cv ul 5000) ∧ Below w.heap.size w w' := by
  have H : Hid (Sl w a len (strV s)) := h
  have HS : Hid (∀ i, i < len → s i ∈ ul) := hs
  have HIH : Hid (∀ m, PlaceIH w w.heap.size bm ul m) := place_any w w.heap.size bm ul rfl hbr hu hkey
  have hli : (len : Int) ≤ 4096 := by omega
  have hmk := fun w => makeS0 len (by omega) w
  have hmm := @run_makeMap Tryf.prog
  have hnn := neq_nil22
  have hns := neq_some22
  clear h hs hbr hkey
  go_enter Tryf.func30, Tryf.ntmps30
  have HST : Hid _ := sort_start w bm len hl
  have HBL : Hid _ := w7_below w (.cells #[.map (some bm)] 89) (.cells #[.slice (some ⟨w.heap.size + 4, 0, none⟩) 0 len] 22) (.map #[] 0) (.cells #[.map (some (w.heap.size + 2))] 73) (.cells (madeCells #[.string ⟨#[]⟩] len) 9) (.cells #[.slice none 0 0] 22) (.cells #[clo w.heap.size] 93)
  go_wp2
  go_loopw [19] (fun i wr => ∃ k : Nat, k ≤ len ∧ i = .int .i64 k ∧ ∃ pv qv seq st n, Hid (SortSt w.heap.size bm wr pv qv [] seq st n) ∧ Hid (PInv ul [] seq st n) ∧ Hid (Below w.heap.size w wr)) (fun i _ => len - (intOf i).toNat)
  case atStart => exact ⟨0, Nat.zero_le _, rfl, _, _, _, _, _, HST, pinv_start ul, HBL⟩
  case round =>
    clear HST HBL
    obtain ⟨k, hk, rfl, pv, qv, seq, st, n, HT, HI, HB⟩ := hrel
    obtain ⟨B, hB⟩ : ∃ B, w.heap.size = B := ⟨_, rfl⟩
    by_cases hlt : k < len
    · obtain ⟨x, hx, hcx⟩ := H.out k hlt
      subst hx
      have hcx' : wr.cell? (x.add k) = some (.string (s k)) := (HB.out.cell (cell_lt hcx)).trans hcx
      have c6 := HT.out.clb.cell (i := 0) (by omega)
      unfold clo at c6
      have HC : Hid (Calls Tryf.prog 34 (pargs w.heap.size (s k)) wr (PlaceOut w.heap.size bm ul [] (unseen ul st) (s k) wr)) := HIH.out (unseen ul st) wr pv qv [] seq st n (s k) HT.out HI.out HB.out (HS.out k hlt) (Nat.le_refl _)
      unfold pargs at HC
      have hlti : (k : Int) < (len : Int) := by omega
      clear hcx hB
      go_wp2_with fail
      refine Calls.mono HC.out ?_
      rintro e w4 ⟨hb4, ⟨rfl, pv4, qv4, seq4, st4, n4, hS4, hI4, h24, hu4⟩ | ⟨g, l4, c4, cyc, rfl, ho, hcu, hcl, q4, hq4⟩⟩
      · have HS4 : Hid (SortSt w.heap.size bm w4 pv4 qv4 [] seq4 st4 n4) := hS4
        have HI4 : Hid (PInv ul [] seq4 st4 n4) := hI4
        have HB4 : Hid (Below w.heap.size w w4) := HB.out.trans hb4
        clear hb4 hS4 hI4 h24 hu4 hcx' c6
        go_wp2
        refine ⟨⟨k + 1, by omega, by go_num, pv4, qv4, seq4, st4, n4, HS4, HI4, HB4⟩, ?_⟩
        simp [intOf]; omega
      · have HO : Hid (Own w.heap.size 9 w4 (.slice (some ⟨g, 0, none⟩) l4 c4) (cyc.map Value.string)) := ho
        have HCU : Hid (∀ x ∈ cyc, x ∈ ul) := hcu
        have HCL : Hid (cyc.length ≤ 5000) := by show _ ≤ _; omega
        have HB4 : Hid (Below w.heap.size w w4) := HB.out.trans hb4
        have HQ4 : Hid (w4.rowIs (w.heap.size + 1) 22 1 (fun _ => q4)) := hq4
        have cq := hq4.cell (i := 0) (by omega)
        have fq := hq4.frozen 0
        clear hb4 ho hcu hcl hcx' c6 hq4
        go_wp2
        have hset := HQ4.out.set 0 (.slice none 0 0)
        have cq' := hset.cell (i := 0) (by omega)
        rw [if_pos rfl] at cq'
        refine bodyPost_ret (v := .tuple #[.slice none 0 0, .slice (some ⟨g, 0, none⟩) l4 c4]) ?_ rfl ⟨⟨_, _, rfl, names_nil _ _ _, ?_⟩, ?_⟩
        · rw [results_cell_tmp rfl]
          go_simp
        · refine names_of_own (HO.out.kept (Foot.setCell w4 ⟨w.heap.size + 1, 0, none⟩ (.slice none 0 0)) (fun b hb e => ?_)) HCU.out HCL.out
          exact HO.out.ne hb HQ4.out (by decide) e
        · exact HB4.out.setCell (by simp) _
    · obtain rfl : len = k := by omega
      have cq := HT.out.sqb.cell (i := 0) (by omega)
      have fq := HT.out.sqb.frozen 0
      obtain ⟨ga, gc, hqv, hqn, hqs⟩ := HT.out.qown.shape
      have HQV : Hid (qv = .slice ga seq.length gc) := by have := hqv; simp only [List.length_map] at this; exact this
      rw [HQV.out] at cq
      clear hqv hqn hqs hB
      go_wp2
      have hset := HT.out.sqb.set 0 (.slice ga seq.length gc)
      have cq' := hset.cell (i := 0) (by omega)
      rw [if_pos rfl] at cq'
      refine bodyPost_ret (v := .tuple #[.slice ga seq.length gc, .slice none 0 0]) ?_ rfl ⟨⟨_, _, rfl, ?_, names_nil _ _ _⟩, ?_⟩
      · rw [results_cell_tmp rfl]
        go_simp
      · refine names_of_own (B := w.heap.size) (l := seq) ?_ HI.out.sul (by have := HI.out.room; omega)
        rw [← HQV.out]
        refine HT.out.qown.kept (Foot.setCell wr ⟨w.heap.size + 1, 0, none⟩ _) (fun b hb e => ?_)
        exact HT.out.qown.ne hb HT.out.sqb (by decide) e
      · exact HB.out.setCell (by simp) _
end Go.Proofs.Qxb6605818aFmt
