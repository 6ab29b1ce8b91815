import Derived.Test.Qxb6605818aFmtTgt
import Derived.Deep.DeepCutAuto
import Derived.Deep.CutRange
import Derived.Deep.RegionLaw
namespace Go.Proofs.Qxb6605818aFmt
open Go.RowKit Go.Maps
set_option linter.unusedVariables false

/-- A switching that can be read: what 'target' looks at. -/
structure SwR (w : World) (sb d ib P : Nat) (ia : Option Addr) (ic N ga lp nn : Nat) (I : Nat → ByteArray) (ix : ByteArray → Nat) (hs : ByteArray → Bool) (avs : Nat → Value) (A : Nat → List Nat) (G : Nat → Value) (s : Nat → ByteArray) (pl ql : Nat → Nat) (zp zo : Nat → Nat → Int) : Prop where
  cd : w.cell? ⟨sb, 0, none⟩ = some (.pointer (some ⟨d, 0, none⟩))
  ci : w.cell? ⟨sb, 4, none⟩ = some (.slice ia N ic)
  cm : w.cell? ⟨sb, 5, none⟩ = some (.map (some ib))
  ca : w.cell? ⟨sb, 7, none⟩ = some (.slice (some ⟨ga, 0, none⟩) N N)
  ids : Sl w ia N (strV I)
  mp : MapK Value.string strKey 9 (.int .i64 0) w ib nn (fun x => .int .i64 (ix x : Nat)) hs
  aft : w.rowIs ga 23 N avs
  row : ∀ i, i < N → ∃ a c, avs i = .slice a (A i).length c ∧ Sl w a (A i).length (fun j => encN ((A i).getD j 0)) ∧ (a = none → A i = [] ∧ c = 0)
  cp : w.cell? ⟨d, 3, none⟩ = some (.slice (some ⟨P, 0, none⟩) lp lp)
  prefs : w.rowIs P 64 (lp * 2) G
  pref : PrefJ w P s pl ql zp zo G lp

theorem SwR.below {w w' : World} {sb d ib P : Nat} {ia : Option Addr} {ic N ga lp nn : Nat} {I : Nat → ByteArray} {ix : ByteArray → Nat} {hs : ByteArray → Bool} {avs : Nat → Value} {A : Nat → List Nat} {G : Nat → Value} {s : Nat → ByteArray} {pl ql : Nat → Nat} {zp zo : Nat → Nat → Int} (h : SwR w sb d ib P ia ic N ga lp nn I ix hs avs A G s pl ql zp zo) (hb : Below w.heap.size w w') : SwR w' sb d ib P ia ic N ga lp nn I ix hs avs A G s pl ql zp zo := by
  refine ⟨(hb.cell (cell_lt h.cd)).trans h.cd, (hb.cell (cell_lt h.ci)).trans h.ci, (hb.cell (cell_lt h.cm)).trans h.cm, (hb.cell (cell_lt h.ca)).trans h.ca, h.ids.below hb, h.mp.kept (S := fun _ => False) (Foot.of_below hb) id, rowIs_below h.aft hb, fun i hi => ?_, (hb.cell (cell_lt h.cp)).trans h.cp, rowIs_below h.prefs hb, h.pref.below hb⟩
  obtain ⟨a, c, h1, h2, h3⟩ := h.row i hi
  exact ⟨a, c, h1, h2.below hb, h3⟩

/-- The successors of i that the first k precedences name. -/
def bs (ix : ByteArray → Nat) (f g : Nat → ByteArray) (i : Nat) : Nat → List Nat
  | 0 => []
  | k + 1 => bs ix f g i k ++ (if ix (f k) = i then [ix (g k)] else [])
theorem bs_length (ix : ByteArray → Nat) (f g : Nat → ByteArray) (i k : Nat) : (bs ix f g i k).length ≤ k := by
  induction k with
  | zero => simp [bs]
  | succ k ih =>
    simp only [bs, List.length_append]
    split <;> simp <;> omega

theorem bs_mem (ix : ByteArray → Nat) (f g : Nat → ByteArray) (i k j : Nat) (h : j ∈ bs ix f g i k) : ∃ l, l < k ∧ j = ix (g l) := by
  induction k with
  | zero => simp [bs] at h
  | succ k ih =>
    simp only [bs] at h
    rcases List.mem_append.1 h with h | h
    · obtain ⟨l, hl, e⟩ := ih h
      exact ⟨l, by omega, e⟩
    · split at h
      · simp only [List.mem_singleton] at h
        exact ⟨k, by omega, h⟩
      · simp at h

/-- Who has j as a successor, among the first i. -/
def yf (X : Nat → List Nat) (j : Nat) : Nat → List Nat
  | 0 => []
  | i + 1 => yf X j i ++ List.replicate ((X i).count j) i
def yp (X : Nat → List Nat) (i t j : Nat) : List Nat := yf X j i ++ List.replicate (((X i).take t).count j) i
theorem yp_zero (X : Nat → List Nat) (i j : Nat) : yp X i 0 j = yf X j i := by simp [yp]
theorem yp_end (X : Nat → List Nat) (i j : Nat) : yp X i (X i).length j = yf X j (i + 1) := by simp [yp, yf]
theorem yp_hit (X : Nat → List Nat) (i t : Nat) (h : t < (X i).length) : yp X i (t + 1) (X i)[t] = yp X i t (X i)[t] ++ [i] := by
  unfold yp
  rw [List.take_succ_eq_append_getElem h, List.count_append, List.count_singleton_self, List.replicate_succ', List.append_assoc]
theorem yp_miss (X : Nat → List Nat) (i t j : Nat) (h : t < (X i).length) (hj : j ≠ (X i)[t]) : yp X i (t + 1) j = yp X i t j := by
  unfold yp
  rw [List.take_succ_eq_append_getElem h, List.count_append, List.count_singleton]
  have : ((X i)[t] == j) = false := by simp; exact fun e => hj e.symm
  simp [this]
theorem yf_length (X : Nat → List Nat) (j K : Nat) (hX : ∀ i, (X i).length ≤ K) (i : Nat) : (yf X j i).length ≤ i * K := by
  induction i with
  | zero => simp [yf]
  | succ i ih =>
    simp only [yf, List.length_append, List.length_replicate]
    have h1 := List.count_le_length (a := j) (l := X i)
    have h2 := hX i
    rw [Nat.add_mul, Nat.one_mul]
    exact Nat.add_le_add ih (Nat.le_trans h1 h2)
theorem yp_length (X : Nat → List Nat) (j K : Nat) (hX : ∀ i, (X i).length ≤ K) (i t : Nat) : (yp X i t j).length ≤ i * K + K := by
  unfold yp
  rw [List.length_append, List.length_replicate]
  have h1 := List.count_le_length (a := j) (l := (X i).take t)
  have h2 := hX i
  have h3 := yf_length X j K hX i
  have h4 : ((X i).take t).length ≤ (X i).length := by rw [List.length_take]; omega
  exact Nat.add_le_add h3 (Nat.le_trans h1 (Nat.le_trans h4 h2))

theorem at_drew {w : World} {n : Nat} {x : Obj} (h : w.heap[n]? = some x) : w.drew.heap[n]? = some x := h
/-- What the start leaves: a target with nothing in it. -/
theorem tst_start (w : World) (base N T G1 G2 Mb : Nat) (h0 h1 h2 : Value) (lo : base ≤ T) (l1 : base ≤ G1) (l2 : base ≤ G2) (l3 : base ≤ Mb) (hT : w.heap[T]? = some (.cells #[h0, h1, h2, .slice (some ⟨G1, 0, none⟩) N N, .slice (some ⟨G2, 0, none⟩) N N, .slice (some ⟨Mb, 0, none⟩) N N, .slice none 0 0] 67 (0, 0)))
    (hG1 : w.heap[G1]? = some (.cells (madeCells #[.slice none 0 0] N) 23 (0, 0))) (hG2 : w.heap[G2]? = some (.cells (madeCells #[.slice none 0 0] N) 23 (0, 0))) (hM : w.heap[Mb]? = some (.cells (madeCells #[.bool false] N) 4 (0, 0))) (hne : G1 ≠ G2) :
    TSt base w T h0 h1 h2 G1 G2 Mb N (.slice none 0 0) (fun _ => .slice none 0 0) (fun _ => []) (fun _ => .slice none 0 0) (fun _ => []) [] := by
  have made : ∀ (z : Value) (t b : Nat), w.heap[b]? = some (.cells (madeCells #[z] N) t (0, 0)) → w.rowIs b t N (fun _ => z) := fun z t b h => ⟨_, h, size_madeCells _ _, fun i hi => by simp [madeCells, hi, Nat.mod_one]⟩
  exact ⟨lo, hT, ⟨l1, made _ _ _ hG1, fun i _ => Own.nil _ _ _, fun i j _ _ _ b hb => by simp [Value.ownBlock] at hb⟩, ⟨l2, made _ _ _ hG2, fun i _ => Own.nil _ _ _, fun i j _ _ _ b hb => by simp [Value.ownBlock] at hb⟩, l3, made _ _ _ hM, Own.nil _ _ _, hne, fun i j _ _ b hb => by simp [Value.ownBlock] at hb⟩

/-- What 'target' hands back, as it reads. -/
structure TgtR (w : World) (v : Value) (nm : ByteArray) (m p lm la N lp : Nat) (X Y : Nat → List Nat) (al : Nat → Nat → Bool) (G1 G2 Mb : Nat) (av : Option Addr) (ac : Nat) (vs1 vs2 als : Nat → Value) : Prop where
  val : v = .agg #[.string nm, .slice (some ⟨m, 0, none⟩) lm lm, .slice (some ⟨p, 0, none⟩) la la, .slice (some ⟨G1, 0, none⟩) N N, .slice (some ⟨G2, 0, none⟩) N N, .slice (some ⟨Mb, 0, none⟩) N N, .slice av lp ac]
  r1 : w.rowIs G1 23 N vs1
  n1 : ∀ i, i < N → ∃ a c, vs1 i = .slice a (X i).length c ∧ Sl w a (X i).length (fun j => encN ((X i).getD j 0))
  r2 : w.rowIs G2 23 N vs2
  n2 : ∀ i, i < N → ∃ a c, vs2 i = .slice a (Y i).length c ∧ Sl w a (Y i).length (fun j => encN ((Y i).getD j 0))
  mu : w.rowIs Mb 4 N (boolV fun _ => false)
  ra : Sl w av lp als
  na : ∀ q, q < lp → ∃ b, als q = .slice (some ⟨b, 0, none⟩) N N ∧ w.rowIs b 4 N (boolV (al q))

theorem TgtR.below {w w' : World} {v : Value} {nm : ByteArray} {m p lm la N lp : Nat} {X Y : Nat → List Nat} {al : Nat → Nat → Bool} {G1 G2 Mb : Nat} {av : Option Addr} {ac : Nat} {vs1 vs2 als : Nat → Value} (h : TgtR w v nm m p lm la N lp X Y al G1 G2 Mb av ac vs1 vs2 als) (hB : Below w.heap.size w w') : TgtR w' v nm m p lm la N lp X Y al G1 G2 Mb av ac vs1 vs2 als := by
  refine ⟨h.val, rowIs_below h.r1 hB, fun i hi => ?_, rowIs_below h.r2 hB, fun i hi => ?_, rowIs_below h.mu hB, h.ra.below hB, fun q hq => ?_⟩
  · obtain ⟨a, c, h1, h2⟩ := h.n1 i hi
    exact ⟨a, c, h1, h2.below hB⟩
  · obtain ⟨a, c, h1, h2⟩ := h.n2 i hi
    exact ⟨a, c, h1, h2.below hB⟩
  · obtain ⟨b, h1, h2⟩ := h.na q hq
    exact ⟨b, h1, rowIs_below h2 hB⟩

theorem set7 (w : World) (R : Nat) (t : TypeId) (z0 z1 z2 z3 z4 z5 z6 v0 v1 v2 v3 v4 v5 v6 : Value) (h : w.heap[R]? = some (.cells #[z0, z1, z2, z3, z4, z5, z6] t (0, 0))) :
    (((((((w.setCell ⟨R, 0, none⟩ v0).setCell ⟨R, 1, none⟩ v1).setCell ⟨R, 2, none⟩ v2).setCell ⟨R, 3, none⟩ v3).setCell ⟨R, 4, none⟩ v4).setCell ⟨R, 5, none⟩ v5).setCell ⟨R, 6, none⟩ v6).heap[R]? = some (.cells #[v0, v1, v2, v3, v4, v5, v6] t (0, 0)) := by
  simp [World.setCell, Array.getElem?_modify, h]
theorem foot7 (w : World) (R : Nat) (v0 v1 v2 v3 v4 v5 v6 : Value) : Foot (fun k => k = R) w (((((((w.setCell ⟨R, 0, none⟩ v0).setCell ⟨R, 1, none⟩ v1).setCell ⟨R, 2, none⟩ v2).setCell ⟨R, 3, none⟩ v3).setCell ⟨R, 4, none⟩ v4).setCell ⟨R, 5, none⟩ v5).setCell ⟨R, 6, none⟩ v6) := by
  have st : ∀ (w : World) (i : Nat) (v : Value), Foot (fun k => k = R) w (w.setCell ⟨R, i, none⟩ v) := fun w i v => (Foot.setCell w ⟨R, i, none⟩ v).mono (fun k _ e => e)
  exact ((((((st _ _ _).trans (st _ _ _) (fun _ _ e => e)).trans (st _ _ _) (fun _ _ e => e)).trans (st _ _ _) (fun _ _ e => e)).trans (st _ _ _) (fun _ _ e => e)).trans (st _ _ _) (fun _ _ e => e)).trans (st _ _ _) (fun _ _ e => e)

theorem tgt_out {base : Nat} {w w' : World} {T : Nat} {nm : ByteArray} {m p lm la : Nat} {G1 G2 Mb N lp : Nat} {av : Option Addr} {ac : Nat} {vs1 : Nat → Value} {X1 : Nat → List Nat} {vs2 : Nat → Value} {X2 : Nat → List Nat} {als : List Value} {al : Nat → Nat → Bool} {R : Nat}
    (h : TSt base w T (.string nm) (.slice (some ⟨m, 0, none⟩) lm lm) (.slice (some ⟨p, 0, none⟩) la la) G1 G2 Mb N (.slice av lp ac) vs1 X1 vs2 X2 als) (hl : als.length = lp) (hR : R < base) (hR4 : ∀ b n f, w.rowIs b 4 n f → b ≠ R) (hF : Foot (fun k => k = R) w w') (ha : ∀ q, q < lp → ∃ b, als[q]? = some (.slice (some ⟨b, 0, none⟩) N N) ∧ w.rowIs b 4 N (boolV (al q))) :
    TgtR w' (.agg #[.string nm, .slice (some ⟨m, 0, none⟩) lm lm, .slice (some ⟨p, 0, none⟩) la la, .slice (some ⟨G1, 0, none⟩) N N, .slice (some ⟨G2, 0, none⟩) N N, .slice (some ⟨Mb, 0, none⟩) N N, .slice av lp ac]) nm m p lm la N lp X1 X2 al G1 G2 Mb av ac vs1 vs2 (fun q => als.getD q (.bool false)) := by
  have n1 := h.n1.kept hF (by have := h.n1.lo; show ¬ (G1 = R); omega) (fun i hi b hb => by have := ((h.n1.own i hi).lt hb).1; show ¬ (b = R); omega)
  have n2 := h.n2.kept hF (by have := h.n2.lo; show ¬ (G2 = R); omega) (fun i hi b hb => by have := ((h.n2.own i hi).lt hb).1; show ¬ (b = R); omega)
  have ho := h.al.kept hF (fun b hb => by have := (h.al.lt hb).1; show ¬ (b = R); omega)
  refine ⟨rfl, n1.out, fun i hi => ?_, n2.out, fun i hi => ?_, h.mu.of_block (hF.block _ h.mu.lt (hR4 _ _ _ h.mu)), (ho.reads rfl).2, fun q hq => ?_⟩
  · obtain ⟨a, c, h1, h2, _⟩ := n1.read hi
    exact ⟨a, c, h1, h2⟩
  · obtain ⟨a, c, h1, h2, _⟩ := n2.read hi
    exact ⟨a, c, h1, h2⟩
  · obtain ⟨b, h1, h2⟩ := ha q hq
    exact ⟨b, by simp [List.getD, h1], h2.of_block (hF.block _ h2.lt (hR4 _ _ _ h2))⟩

/-- Preference q allows member j. -/
def alw (s : Nat → ByteArray) (pl ql : Nat → Nat) (zp zo : Nat → Nat → Int) (I : Nat → ByteArray) (q j : Nat) : Bool := inStr (pick s (zp q)) (I j) (pl q) && inStr (pick s (zo q)) (I j) (ql q)
theorem fin_start {w0 W : World} {base N T G1 G2 Mb : Nat} {h0 h1 h2 : Value} (hB : Below base w0 W) 
   (hT : W.heap[T]? = some (.cells #[h0, h1, h2, .slice (some ⟨G1, 0, none⟩) N N, .slice (some ⟨G2, 0, none⟩) N N, .slice (some ⟨Mb, 0, none⟩) N N, .slice none 0 0] 67 (0, 0)))
    (hG1 : W.heap[G1]? = some (.cells (madeCells #[.slice none 0 0] N) 23 (0, 0))) (hG2 : W.heap[G2]? = some (.cells (madeCells #[.slice none 0 0] N) 23 (0, 0))) (hM : W.heap[Mb]? = some (.cells (madeCells #[.bool false] N) 4 (0, 0))) (hne : base ≤ T ∧ base ≤ G1 ∧ base ≤ G2 ∧ base ≤ Mb ∧ G1 ≠ G2) :
   ∃ T' G1 G2 Mb, Value.pointer (some ⟨T, 0, none⟩) = .pointer (some ⟨T', 0, none⟩) ∧ Hid (TSt base W.drew T' h0 h1 h2 G1 G2 Mb N (.slice none 0 0) (fun _ => .slice none 0 0) (fun _ => []) (fun _ => .slice none 0 0) (fun _ => []) []) ∧ Hid (Below base w0 W.drew) := by
  obtain ⟨n1, n2, n3, n4, n5⟩ := hne
  exact ⟨T, G1, G2, Mb, rfl, tst_start _ _ N T G1 G2 Mb h0 h1 h2 n1 n2 n3 n4 (at_drew hT) (at_drew hG1) (at_drew hG2) (at_drew hM) n5, hB.drew⟩
end Go.Proofs.Qxb6605818aFmt
