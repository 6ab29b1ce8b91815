import Derived.Test.Qxb6605818aFmtPlace
namespace Go.Proofs.Qxb6605818aFmt
open Go.RowKit Go.Maps
set_option linter.unusedVariables false

/-- The map 'before', read only. -/
def BefR (w0 : World) (bm : Nat) (ul : List ByteArray) : Prop :=
  ∃ gf : ByteArray → Value, (∃ n hs, MapK Value.string strKey 9 (.slice none 0 0) w0 bm n gf hs) ∧ ∀ x, ∃ (a : Option Addr) (l c : Nat) (t : Nat → ByteArray), gf x = .slice a l c ∧ l ≤ 4096 ∧ Sl w0 a l (strV t) ∧ ∀ i, i < l → t i ∈ ul

def PlaceIH (w0 : World) (B bm : Nat) (ul : List ByteArray) (m : Nat) : Prop :=
  ∀ (w : World) (pv qv : Value) (path seq : List ByteArray) (st : ByteArray → Nat) (n : Nat) (id : ByteArray), SortSt B bm w pv qv path seq st n → PInv ul path seq st n → Below B w0 w → id ∈ ul → unseen ul st ≤ m → Calls Tryf.prog 34 (pargs B id) w (PlaceOut B bm ul path (unseen ul st) id w)

set_option maxRecDepth 100000 in
set_option maxHeartbeats 2000000 in
theorem place_new (w0 : World) (B bm : Nat) (ul : List ByteArray) (hB : B = w0.heap.size) (hbr : BefR w0 bm ul) (hu : ul.length ≤ 4096) (hkey : ∀ x ∈ ul, strKey x) (m : Nat) (ih : PlaceIH w0 B bm ul m)
    (w : World) (pv qv : Value) (path seq : List ByteArray) (st : ByteArray → Nat) (n : Nat) (id : ByteArray) (h : SortSt B bm w pv qv path seq st n) (hI : PInv ul path seq st n) (hW : Below B w0 w) (hul : id ∈ ul) (hm : unseen ul st ≤ m + 1) (h0 : st id = 0) :
    Calls Tryf.prog 34 (pargs B id) w (PlaceOut B bm ul path (unseen ul st) id w) := by
  have hid := hkey id hul
  have c3 := h.stb.cell (i := 0) (by omega)
  have hlk := h.look id hid
  rw [h0] at hlk
  have hn1 : n ≤ 1000000 := by have := hI.puts; omega
  have hp1 : path.length ≤ 4096 := by have := hI.room; omega
  obtain ⟨w1, hput, hS1, hF1⟩ := h.put id hid 1 hn1
  have hput : (Instr.mapUpdate 73 (.map (some (B + 2))) (.string id) (.int .i64 1)).run Tryf.prog w = .ok () w1 := hput
  have hI1 := hI.mark hul h0
  have hum := unseen_mark ul st id 1 (by omega) hul h0
  have hnp : id ∉ path := fun e => by have := (hI.mem id).2 e; omega
  have hB1 : Below B w w1 := hF1.below (by have := h.bef.lt; omega) (fun k e => by omega)
  have c5 := hS1.ptb.cell (i := 0) (by omega)
  obtain ⟨pv', w2, e1, hS2, e2, e3, hB2, ⟨g2, d2, hpv'⟩⟩ := hS1.push id (by omega)
  subst hpv'
  obtain ⟨w3, hw3⟩ : ∃ w3, w2.setCell ⟨B + 5, 0, none⟩ (.slice (some ⟨g2, 0, none⟩) (path.length + 1) d2) = w3 := ⟨_, rfl⟩
  rw [hw3] at hS2 hB2
  have cB := hS2.bef.cell (i := 0) (by omega)
  obtain ⟨gf, ⟨nb, hsb, hMb⟩, hgf⟩ := hbr
  obtain ⟨a, l, c, t, hg, hl, hSl, htu⟩ := hgf id
  have hbml : bm < B := by rw [hB]; exact hMb.lt
  have HM : Hid (∀ w', Below B w0 w' → (Instr.lookup 89 (.map (some bm)) (.string id) false).run Tryf.prog w' = .ok (.slice a l c) w') := fun w' hb => by
    have := (hMb.kept (S := fun k => B ≤ k) ⟨hb.os, hb.tape, hb.output, hb.size, fun i hi hn => hb.block i (by omega)⟩ (by omega)).look law9 u89 (zero22 w') id hid
    rw [hg] at this
    exact this
  have HW3 : Hid (Below B w0 w3) := (hW.trans hB1).trans hB2
  have hlk3 := HM.out w3 HW3.out
  have HSL : Hid (Sl w0 a l (strV t)) := hSl
  have HTU : Hid (∀ i, i < l → t i ∈ ul) := htu
  have hli : (l : Int) ≤ 4096 := by omega
  have HIH : Hid (PlaceIH w0 B bm ul m) := ih
  have HS2 : Hid (SortSt B bm w3 (.slice (some ⟨g2, 0, none⟩) (path.length + 1) d2) qv (path ++ [id]) seq (upd st id 1) (n + 1)) := hS2
  have HI1 : Hid (PInv ul (path ++ [id]) seq (upd st id 1) (n + 1)) := hI1
  have HUM : Hid (unseen ul (upd st id 1) + 1 ≤ unseen ul st) := hum
  have HM2 : Hid (unseen ul st ≤ m + 1) := hm
  have HNP : Hid (id ∉ path) := hnp
  have HBW : Hid (Below B w w3) := hB1.trans hB2
  have HB0 : Hid (w0.heap.size = B) := hB.symm
  have hnn := neq_nil22
  have hns := neq_some22
  have c3a := hS1.stb.cell (i := 0) (by omega)
  clear h hI hS1 hF1 hI1 hum hnp hS2 hMb hgf hg hSl htu ih hm hB1 hB2 hW hkey hB h0
  unfold pargs
  go_enter Tryf.func34, Tryf.ntmps34
  go_wp2_with (at_builtin; refine wpList_app rfl (.tmp 46) (.tmp 48) 22 rfl _ _ _ _ rfl rfl e1 ?_)
  go_loopw [54] (fun i wr => ∃ k : Nat, k ≤ l ∧ i = .int .i64 k ∧ ∃ pv qv seq st' n, Hid (SortSt B bm wr pv qv (path ++ [id]) seq st' n) ∧ Hid (PInv ul (path ++ [id]) seq st' n) ∧ Hid (unseen ul st' ≤ unseen ul (upd st id 1)) ∧ Hid (Below B w0 wr) ∧ Hid (Below B w wr)) (fun i _ => l - (intOf i).toNat)
  case atStart => exact ⟨0, Nat.zero_le _, rfl, _, _, _, _, _, HS2, HI1, Nat.le_refl _, HW3, HBW⟩
  case round =>
    clear HS2 HI1 HW3 HBW
    obtain ⟨k, hk, rfl, pv, qv, seq, st', n, HS, HI, HU, HW, HBW⟩ := hrel
    by_cases hlt : k < l
    · obtain ⟨x, hx, hcx⟩ := HSL.out k hlt
      subst hx
      have hcx' : wr.cell? (x.add k) = some (.string (t k)) := (HW.out.cell (by rw [← HB0.out]; exact cell_lt hcx)).trans hcx
      have c6 := HS.out.clb.cell (i := 0) (by omega)
      unfold clo at c6
      have HC : Hid (Calls Tryf.prog 34 (pargs B (t k)) wr (PlaceOut B bm ul (path ++ [id]) (unseen ul st') (t k) wr)) := HIH.out wr pv qv (path ++ [id]) seq st' n (t k) HS.out HI.out HW.out (HTU.out k hlt) (by have := HU.out; have := HUM.out; have := HM2.out; omega)
      unfold pargs at HC
      have hlti : (k : Int) < (l : Int) := by omega
      clear hcx
      go_wp2_with fail
      refine Calls.mono HC.out ?_
      rintro e w4 ⟨hb4, ⟨rfl, pv4, qv4, seq4, st4, n4, hS4, hI4, h24, hu4⟩ | ⟨g, l4, c4, cyc, rfl, ho, hcu, hcl, hq4⟩⟩
      · have HS4 : Hid (SortSt B bm w4 pv4 qv4 (path ++ [id]) seq4 st4 n4) := hS4
        have HI4 : Hid (PInv ul (path ++ [id]) seq4 st4 n4) := hI4
        have HU4 : Hid (unseen ul st4 ≤ unseen ul (upd st id 1)) := Nat.le_trans hu4 HU.out
        have HW4 : Hid (Below B w0 w4) := HW.out.trans hb4
        have HBW4 : Hid (Below B w w4) := HBW.out.trans hb4
        clear hb4 hS4 hI4 h24 hu4 hcx' c6
        go_wp2
        refine ⟨⟨k + 1, by omega, by go_num, pv4, qv4, seq4, st4, n4, HS4, HI4, HU4, HW4, HBW4⟩, ?_⟩
        simp [intOf]; omega
      · have HO : Hid (PlaceOut B bm ul path (unseen ul st) id w (.returned (.slice (some ⟨g, 0, none⟩) l4 c4)) w4) := ⟨HBW.out.trans hb4, .inr ⟨g, l4, c4, cyc, rfl, ho, hcu, hcl, hq4⟩⟩
        clear hb4 ho hcu hcl hq4 hcx' c6
        go_wp2
        go_ret
        exact HO.out
    · obtain rfl : l = k := by omega
      have hI := HI.out
      have hroom := hI.room
      have hputs := hI.puts
      simp only [List.length_append, List.length_singleton] at hroom hputs
      have hst1 : st' id = 1 := (hI.mem id).2 (by simp)
      obtain ⟨g, d, hpv⟩ : ∃ g d, pv = .slice (some ⟨g, 0, none⟩) (path.length + 1) d := by
        obtain ⟨a', c', hv, hn, hs⟩ := HS.out.pown.shape
        cases a' with
        | none => exact absurd (hn rfl).1 (by simp)
        | some y =>
          obtain ⟨hy, _⟩ := hs y rfl
          rw [hy] at hv
          exact ⟨y.block, c', by rw [hv]; simp⟩
      subst hpv
      have c5b := HS.out.ptb.cell (i := 0) (by omega)
      have f5b := HS.out.ptb.frozen 0
      obtain ⟨hS5, hB5, hd1, hd2⟩ := HS.out.pop
      obtain ⟨w5, hw5⟩ : ∃ w5, wr.setCell ⟨B + 5, 0, none⟩ (.slice (some ⟨g, 0, none⟩) path.length d) = w5 := ⟨_, rfl⟩
      rw [hw5] at hS5 hB5
      have c3b := hS5.stb.cell (i := 0) (by omega)
      obtain ⟨w6, hput6, hS6, hF6⟩ := hS5.put id hid 2 (by omega)
      have hput6 : (Instr.mapUpdate 73 (.map (some (B + 2))) (.string id) (.int .i64 2)).run Tryf.prog w5 = .ok () w6 := hput6
      have c1b := hS6.sqb.cell (i := 0) (by omega)
      obtain ⟨qv7, w7, e7, hS7, x1, x2, hB7, ⟨gq, dq, hqv⟩⟩ := hS6.pushSeq id (by omega)
      subst hqv
      have hI7 := hI.done hul HNP.out (by omega)
      have hB6 : Below B w5 w6 := hF6.below (by have := hS5.bef.lt; omega) (fun k e => by omega)
      have hun : unseen ul (upd st' id 2) ≤ unseen ul st := by
        have h1 := unseen_mono ul st' (upd st' id 2) (fun y hy => by
          by_cases e : y = id
          · subst e; rw [upd_same]; omega
          · rw [upd_other _ _ e]; exact hy)
        have := HU.out
        have := HUM.out
        omega
      have HO : Hid (PlaceOut B bm ul path (unseen ul st) id w (.returned (.slice none 0 0)) (w7.setCell ⟨B + 1, 0, none⟩ (.slice (some ⟨gq, 0, none⟩) (seq.length + 1) dq))) := ⟨((HBW.out.trans hB5).trans hB6).trans hB7, .inl ⟨rfl, _, _, _, _, _, hS7, hI7, upd_same _ _ _, hun⟩⟩
      have hdi : (path.length : Int) + 1 ≤ (d : Int) := by omega
      have hdm : (d : Int) ≤ 9223372036854775807 := by unfold maxLen at hd2; omega
      have hpi : (path.length : Int) ≤ 4096 := by omega
      clear hS5 hB5 hS6 hF6 hS7 hI7 hB7 hun hI hst1 hd2 hB6
      go_wp2_with (at_builtin; refine wpList_app rfl (.tmp 72) (.tmp 74) 22 rfl _ _ _ _ rfl rfl e7 ?_)
      go_ret
      exact HO.out
end Go.Proofs.Qxb6605818aFmt
