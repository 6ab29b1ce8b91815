import Derived.Test.Qxb6605818aFmtSw1
import Derived.Deep.DeepCutAuto
import Derived.Deep.CutRange
import Derived.Deep.RegionLaw
import Derived.Deep.RegionHeld3
namespace Go.Proofs.Qxb6605818aFmt
open Go.RowKit Go.Maps
set_option linter.unusedVariables false

/-- What 'switching' promises. -/
def Gives23 (w : World) (d P N lp : Nat) (I : Nat → ByteArray) (ix : ByteArray → Nat) (hs : ByteArray → Bool) (A : Nat → List Nat) (G : Nat → Value) (s : Nat → ByteArray) (pl ql : Nat → Nat) (zp zo : Nat → Nat → Int) : Prop :=
  ∀ X, Below w.heap.size w X → Calls Tryf.prog 23 #[.pointer (some ⟨d, 0, none⟩), .int .i64 0] X fun e w' => ∃ sb ib ia ic ga nn avs, e = .returned (.pointer (some ⟨sb, 0, none⟩)) ∧ SwR w' sb d ib P ia ic N ga lp nn I ix hs avs A G s pl ql zp zo ∧ Below X.heap.size X w'
/-- What 'target' promises. -/
def Gives24 (w : World) (d P N lp : Nat) (I : Nat → ByteArray) (ix : ByteArray → Nat) (hs : ByteArray → Bool) (A : Nat → List Nat) (G : Nat → Value) (s : Nat → ByteArray) (pl ql : Nat → Nat) (zp zo : Nat → Nat → Int) (nm : ByteArray) (m p lm la : Nat) (XX YY : Nat → List Nat) (al : Nat → Nat → Bool) : Prop :=
  ∀ X sb ib ia ic ga nn avs, Below w.heap.size w X → SwR X sb d ib P ia ic N ga lp nn I ix hs avs A G s pl ql zp zo → Calls Tryf.prog 24 #[.pointer (some ⟨sb, 0, none⟩), ordV nm m p lm la] X fun e w' => ∃ v G1 G2 Mb av ac vs1 vs2 als, e = .returned v ∧ TgtR w' v nm m p lm la N lp XX YY al G1 G2 Mb av ac vs1 vs2 als ∧ Below X.heap.size X w'

/-- A call with two arguments, as one step of a region that draws. -/
theorem step_call2 {P : Program} {ops : Array Oper} {o : Oper} {a : Act} {w : World} {K : Act → World → Prop} {Q : Exit → Act → World → Prop} {E : Prop} (hg : o.guard = none) (fn : FuncId) {fn' : Func} (hfn : P.funcs[fn]? = some fn') (hname : (fn'.name == "runtime.NumGoroutine") = false) (hbody : fn'.body.isSome = true) (s x : Operand) (t u : TypeId) (hop : o.op = Op.call { callee := Callee.value (Operand.func fn), args := #[s, x], argTypes := #[t, u] })
    (v1 v2 : Value) (R : Value → World → Prop) (hs : a.eval s = v1) (hx : a.eval x = v2) (hc : Calls P fn #[v1, v2] w fun e w' => ∃ v, e = .returned v ∧ R v w') (hK : ∀ v w', R v w' → K (a.put o.dst v) w') :
    if Region.wanted o (yielded ops a.tmps) = true then Oper.wp P o a w K Q else E := by
  have hw : Region.wanted o (yielded ops a.tmps) = true := by simp [Region.wanted, hg]
  rw [if_pos hw]
  unfold Oper.wp
  have hr : (execOp a.eval o).run P w = .ok (.enter fn #[v1, v2]) w := by
    have hf : a.eval (Operand.func fn) = .func (.func fn) #[] #[] := rfl
    have hn : ¬ fn'.name = "runtime.NumGoroutine" := by simpa using hname
    have hb : ¬ fn'.body = none := fun e => by rw [e] at hbody; cases hbody
    simp [execOp, hop, resolve, invoke, hs, hx, hf, Deferred.ofValue, callFunc, Result.andThen, hfn, hn, hb]
  rw [hr, Oper.upon_enter]
  refine Calls.mono hc ?_
  rintro e w' ⟨v, rfl, h⟩
  exact hK v w' h
theorem name24 : (Tryf.f24.name == "runtime.NumGoroutine") = false := by kernel_rfl
theorem body24 : Tryf.f24.body.isSome = true := by kernel_rfl
theorem sl_away {w w' : World} {T : Nat} {a : Option Addr} {len : Nat} {f : Nat → Value} (h : Sl w a len f) (hT : w.heap[T]? = some (.cells #[.string ⟨#[]⟩, .slice none 0 0, .slice none 0 0, .slice none 0 0, .slice none 0 0, .slice none 0 0, .slice none 0 0] 67 (0, 0))) (hF : Foot (fun k => k = T) w w') (hf : ∀ i, i < len → f i ≠ .string ⟨#[]⟩ ∧ f i ≠ .slice none 0 0) : Sl w' a len f := by
  intro i hi
  obtain ⟨x, hx, hc⟩ := h i hi
  refine ⟨x, hx, hF.cell hc (fun e => ?_)⟩
  have e : (x.add i).block = T := e
  unfold World.cell? at hc
  rw [e, hT] at hc
  simp only at hc
  split at hc
  · cases hc
  · have hm := Array.mem_of_getElem? hc
    obtain ⟨h1, h2⟩ := hf i hi
    simp at hm
    rcases hm with hm | hm
    · exact h1 hm
    · exact h2 hm
theorem row_away {w w' : World} {T b n : Nat} {t : TypeId} {c : Array Value} {f : Nat → Value} (h : w.rowIs b t n f) (hT : w.heap[T]? = some (.cells c 67 (0, 0))) (ht : t ≠ 67) (hF : Foot (fun k => k = T) w w') : w'.rowIs b t n f := by
  refine h.of_block (hF.block _ h.lt (fun e => ?_))
  obtain ⟨cs, hb, _⟩ := h
  have e : b = T := e
  exact cells_ne hb hT ht e
theorem TgtR.away {w w' : World} {T : Nat} {v : Value} {nm : ByteArray} {m p lm la N lp : Nat} {X Y : Nat → List Nat} {al : Nat → Nat → Bool} {G1 G2 Mb : Nat} {av : Option Addr} {ac : Nat} {vs1 vs2 als : Nat → Value} (h : TgtR w v nm m p lm la N lp X Y al G1 G2 Mb av ac vs1 vs2 als) (hT : w.heap[T]? = some (.cells #[.string ⟨#[]⟩, .slice none 0 0, .slice none 0 0, .slice none 0 0, .slice none 0 0, .slice none 0 0, .slice none 0 0] 67 (0, 0))) (hF : Foot (fun k => k = T) w w') : TgtR w' v nm m p lm la N lp X Y al G1 G2 Mb av ac vs1 vs2 als := by
  refine ⟨h.val, row_away h.r1 hT (by decide) hF, fun i hi => ?_, row_away h.r2 hT (by decide) hF, fun i hi => ?_, row_away h.mu hT (by decide) hF, sl_away h.ra hT hF (fun i hi => ?_), fun q hq => ?_⟩
  · obtain ⟨a, c, h1, h2⟩ := h.n1 i hi
    exact ⟨a, c, h1, sl_away h2 hT hF (fun j _ => ⟨by simp [encN], by simp [encN]⟩)⟩
  · obtain ⟨a, c, h1, h2⟩ := h.n2 i hi
    exact ⟨a, c, h1, sl_away h2 hT hF (fun j _ => ⟨by simp [encN], by simp [encN]⟩)⟩
  · obtain ⟨b, h1, _⟩ := h.na i hi
    rw [h1]
    simp
  · obtain ⟨b, h1, h2⟩ := h.na q hq
    exact ⟨b, h1, row_away h2 hT (by decide) hF⟩
/-- What the store leaves: the target in the variable. -/
theorem zz_end {w1 w4 : World} {T : Nat} {v : Value} {nm : ByteArray} {m p lm la N lp : Nat} {X Y : Nat → List Nat} {al : Nat → Nat → Bool} {G1 G2 Mb : Nat} {av : Option Addr} {ac : Nat} {vs1 vs2 als : Nat → Value} (h : TgtR w4 v nm m p lm la N lp X Y al G1 G2 Mb av ac vs1 vs2 als) (hB : Below w1.heap.size w1 w4) (hT : w4.heap[T]? = some (.cells #[.string ⟨#[]⟩, .slice none 0 0, .slice none 0 0, .slice none 0 0, .slice none 0 0, .slice none 0 0, .slice none 0 0] 67 (0, 0))) (hlo : w1.heap.size ≤ T) :
    ∃ T' v' H1 H2 Hb hv hc us1 us2 uls, Value.pointer (some ⟨T, 0, none⟩) = .pointer (some ⟨T', 0, none⟩) ∧ Hid ((((((((w4.setCell ⟨T, 0, none⟩ (.string nm)).setCell ⟨T, 1, none⟩ (.slice (some ⟨m, 0, none⟩) lm lm)).setCell ⟨T, 2, none⟩ (.slice (some ⟨p, 0, none⟩) la la)).setCell ⟨T, 3, none⟩ (.slice (some ⟨G1, 0, none⟩) N N)).setCell ⟨T, 4, none⟩ (.slice (some ⟨G2, 0, none⟩) N N)).setCell ⟨T, 5, none⟩ (.slice (some ⟨Mb, 0, none⟩) N N)).setCell ⟨T, 6, none⟩ (.slice av lp ac)).heap[T']? = some (.cells #[.string nm, .slice (some ⟨m, 0, none⟩) lm lm, .slice (some ⟨p, 0, none⟩) la la, .slice (some ⟨H1, 0, none⟩) N N, .slice (some ⟨H2, 0, none⟩) N N, .slice (some ⟨Hb, 0, none⟩) N N, .slice hv lp hc] 67 (0, 0))) ∧ Hid (TgtR (((((((w4.setCell ⟨T, 0, none⟩ (.string nm)).setCell ⟨T, 1, none⟩ (.slice (some ⟨m, 0, none⟩) lm lm)).setCell ⟨T, 2, none⟩ (.slice (some ⟨p, 0, none⟩) la la)).setCell ⟨T, 3, none⟩ (.slice (some ⟨G1, 0, none⟩) N N)).setCell ⟨T, 4, none⟩ (.slice (some ⟨G2, 0, none⟩) N N)).setCell ⟨T, 5, none⟩ (.slice (some ⟨Mb, 0, none⟩) N N)).setCell ⟨T, 6, none⟩ (.slice av lp ac)) v' nm m p lm la N lp X Y al H1 H2 Hb hv hc us1 us2 uls) ∧ Hid (Below w1.heap.size w1 (((((((w4.setCell ⟨T, 0, none⟩ (.string nm)).setCell ⟨T, 1, none⟩ (.slice (some ⟨m, 0, none⟩) lm lm)).setCell ⟨T, 2, none⟩ (.slice (some ⟨p, 0, none⟩) la la)).setCell ⟨T, 3, none⟩ (.slice (some ⟨G1, 0, none⟩) N N)).setCell ⟨T, 4, none⟩ (.slice (some ⟨G2, 0, none⟩) N N)).setCell ⟨T, 5, none⟩ (.slice (some ⟨Mb, 0, none⟩) N N)).setCell ⟨T, 6, none⟩ (.slice av lp ac))) := by
  have hF := foot7 w4 T (.string nm) (.slice (some ⟨m, 0, none⟩) lm lm) (.slice (some ⟨p, 0, none⟩) la la) (.slice (some ⟨G1, 0, none⟩) N N) (.slice (some ⟨G2, 0, none⟩) N N) (.slice (some ⟨Mb, 0, none⟩) N N) (.slice av lp ac)
  exact ⟨T, v, G1, G2, Mb, av, ac, vs1, vs2, als, rfl, set7 _ _ _ _ _ _ _ _ _ _ _ _ _ _ _ _ _ hT, h.away hT hF, hB.trans (hF.below hB.size (fun k e => by rw [e]; exact hlo))⟩

theorem zz_new {w1 w4 : World} {v : Value} {nm : ByteArray} {m p lm la N lp : Nat} {X Y : Nat → List Nat} {al : Nat → Nat → Bool} {G1 G2 Mb : Nat} {av : Option Addr} {ac : Nat} {vs1 vs2 als : Nat → Value} (h : TgtR w4 v nm m p lm la N lp X Y al G1 G2 Mb av ac vs1 vs2 als) (hB : Below w1.heap.size w1 w4) :
    ∃ T' v' H1 H2 Hb hv hc us1 us2 uls, Value.pointer (some ⟨w4.heap.size, 0, none⟩) = .pointer (some ⟨T', 0, none⟩) ∧ Hid ((w4.alloc (.cells #[.string nm, .slice (some ⟨m, 0, none⟩) lm lm, .slice (some ⟨p, 0, none⟩) la la, .slice (some ⟨G1, 0, none⟩) N N, .slice (some ⟨G2, 0, none⟩) N N, .slice (some ⟨Mb, 0, none⟩) N N, .slice av lp ac] 67)).heap[T']? = some (.cells #[.string nm, .slice (some ⟨m, 0, none⟩) lm lm, .slice (some ⟨p, 0, none⟩) la la, .slice (some ⟨H1, 0, none⟩) N N, .slice (some ⟨H2, 0, none⟩) N N, .slice (some ⟨Hb, 0, none⟩) N N, .slice hv lp hc] 67 (0, 0))) ∧ Hid (TgtR (w4.alloc (.cells #[.string nm, .slice (some ⟨m, 0, none⟩) lm lm, .slice (some ⟨p, 0, none⟩) la la, .slice (some ⟨G1, 0, none⟩) N N, .slice (some ⟨G2, 0, none⟩) N N, .slice (some ⟨Mb, 0, none⟩) N N, .slice av lp ac] 67)) v' nm m p lm la N lp X Y al H1 H2 Hb hv hc us1 us2 uls) ∧ Hid (Below w1.heap.size w1 (w4.alloc (.cells #[.string nm, .slice (some ⟨m, 0, none⟩) lm lm, .slice (some ⟨p, 0, none⟩) la la, .slice (some ⟨G1, 0, none⟩) N N, .slice (some ⟨G2, 0, none⟩) N N, .slice (some ⟨Mb, 0, none⟩) N N, .slice av lp ac] 67))) :=
  ⟨w4.heap.size, v, G1, G2, Mb, av, ac, vs1, vs2, als, rfl, heap_alloc_new _ _, h.below ((Below.refl _ _).alloc (Nat.le_refl _) _), hB.alloc hB.size _⟩
theorem results_tmp5 {fn : Func} {t u v x y : Tmp} (h : fn.results = #[.tmp t, .tmp u, .tmp v, .tmp x, .tmp y]) (tmps : Array Value) (P : Program) (w : World) :
    (results fn tmps).run P w = .ok (.tuple #[tmps.getD t undef, tmps.getD u undef, tmps.getD v undef, tmps.getD x undef, tmps.getD y undef]) w := by simp [results, h]
theorem name23 : (Tryf.f23.name == "runtime.NumGoroutine") = false := by kernel_rfl
theorem body23 : Tryf.f23.body.isSome = true := by kernel_rfl
theorem cells7 {w : World} {T : Nat} {t : TypeId} {z0 z1 z2 z3 z4 z5 z6 : Value} (h : w.heap[T]? = some (.cells #[z0, z1, z2, z3, z4, z5, z6] t (0, 0))) :
    w.cell? ⟨T, 0, none⟩ = some z0 ∧ w.cell? ⟨T, 1, none⟩ = some z1 ∧ w.cell? ⟨T, 2, none⟩ = some z2 ∧ w.cell? ⟨T, 3, none⟩ = some z3 ∧ w.cell? ⟨T, 4, none⟩ = some z4 ∧ w.cell? ⟨T, 5, none⟩ = some z5 ∧ w.cell? ⟨T, 6, none⟩ = some z6 ∧
    w.frozen? ⟨T, 0, none⟩ = false ∧ w.frozen? ⟨T, 1, none⟩ = false ∧ w.frozen? ⟨T, 2, none⟩ = false ∧ w.frozen? ⟨T, 3, none⟩ = false ∧ w.frozen? ⟨T, 4, none⟩ = false ∧ w.frozen? ⟨T, 5, none⟩ = false ∧ w.frozen? ⟨T, 6, none⟩ = false := by
  simp [World.cell?, World.frozen?, h]

set_option maxRecDepth 100000 in
set_option maxHeartbeats 40000000 in
theorem zz_core (d P N lp : Nat) (I : Nat → ByteArray) (ix : ByteArray → Nat) (hs : ByteArray → Bool) (A : Nat → List Nat) (G : Nat → Value) (s : Nat → ByteArray) (pl ql : Nat → Nat) (zp zo : Nat → Nat → Int) (nm : ByteArray) (m p lm la : Nat) (XX YY : Nat → List Nat) (al : Nat → Nat → Bool) (w : World)
    (h23 : Gives23 w d P N lp I ix hs A G s pl ql zp zo) (h24 : Gives24 w d P N lp I ix hs A G s pl ql zp zo nm m p lm la XX YY al) :
    Calls Tryf.prog 14 #[.pointer (some ⟨d, 0, none⟩), .int .i64 0, ordV nm m p lm la] w fun e w' => ∃ v G1 G2 Mb av ac vs1 vs2 als, e = .returned (.tuple #[.slice (some ⟨G1, 0, none⟩) N N, .slice (some ⟨G2, 0, none⟩) N N, .slice (some ⟨Mb, 0, none⟩) N N, .slice av lp ac, .string nm]) ∧ TgtR w' v nm m p lm la N lp XX YY al G1 G2 Mb av ac vs1 vs2 als ∧ Below w.heap.size w w' := by
  have H23 : Hid (Gives23 w d P N lp I ix hs A G s pl ql zp zo) := h23
  have H24 : Hid (Gives24 w d P N lp I ix hs A G s pl ql zp zo nm m p lm la XX YY al) := h24
  obtain ⟨w1, hw1⟩ : ∃ w1, w.alloc (.cells #[.string nm, .slice (some ⟨m, 0, none⟩) lm lm, .slice (some ⟨p, 0, none⟩) la la] 43) = w1 := ⟨_, rfl⟩
  have hB1 : Below w.heap.size w w1 := by rw [← hw1]; exact (Below.refl _ _).alloc (Nat.le_refl _) _
  have hblk : w1.heap[w.heap.size]? = some (.cells #[.string nm, .slice (some ⟨m, 0, none⟩) lm lm, .slice (some ⟨p, 0, none⟩) la la] 43 (0, 0)) := by rw [← hw1]; exact heap_alloc_new _ _
  obtain ⟨ob, hob⟩ : ∃ ob, w.heap.size = ob := ⟨_, rfl⟩
  rw [hob] at hblk
  have HB1 : Hid (Below w.heap.size w w1) := hB1
  have HO : Hid (∀ X, Below w1.heap.size w1 X → X.cell? ⟨ob, 0, none⟩ = some (.string nm) ∧ X.cell? ⟨ob, 1, none⟩ = some (.slice (some ⟨m, 0, none⟩) lm lm) ∧ X.cell? ⟨ob, 2, none⟩ = some (.slice (some ⟨p, 0, none⟩) la la)) := fun X hX => by
    have h := (hX.block ob (block_lt hblk)).trans hblk
    simp [World.cell?, h]
  clear h23 h24 hB1 hblk
  have HC24 : Hid (∀ X sb ib ia ic ga nn avs, Below w1.heap.size w1 X → SwR X sb d ib P ia ic N ga lp nn I ix hs avs A G s pl ql zp zo → Calls Tryf.prog 24 #[.pointer (some ⟨sb, 0, none⟩), .agg #[.string nm, .slice (some ⟨m, 0, none⟩) lm lm, .slice (some ⟨p, 0, none⟩) la la]] X fun e w' => ∃ v G1 G2 Mb av ac vs1 vs2 als, e = .returned v ∧ TgtR w' v nm m p lm la N lp XX YY al G1 G2 Mb av ac vs1 vs2 als ∧ Below X.heap.size X w') := fun X sb ib ia ic ga nn avs hX hS => H24.out X sb ib ia ic ga nn avs (HB1.out.trans (hX.mono HB1.out.size)) hS
  have HC23 : Hid (∀ X, Below w1.heap.size w1 X → Calls Tryf.prog 23 #[.pointer (some ⟨d, 0, none⟩), .int .i64 0] X fun e w' => ∃ sb ib ia ic ga nn avs, e = .returned (.pointer (some ⟨sb, 0, none⟩)) ∧ SwR w' sb d ib P ia ic N ga lp nn I ix hs avs A G s pl ql zp zo ∧ Below X.heap.size X w') := fun X hX => H23.out X (HB1.out.trans (hX.mono HB1.out.size))
  clear H23 H24
  have D1 : Hid (Below w1.heap.size w1 w1.drew) := (Below.refl _ _).drew
  have D2 : ∀ o, Hid (Below w1.heap.size w1 (w1.alloc o).drew) := fun o => ((Below.refl _ _).alloc (Nat.le_refl _) o).drew
  unfold ordV
  go_enter Tryf.func14, Tryf.ntmps14
  go_upto_region 1 with fail
  go_cut [11] (fun s11 wx => ∃ T v G1 G2 Mb av ac vs1 vs2 als, s11 = .pointer (some ⟨T, 0, none⟩) ∧ Hid (wx.heap[T]? = some (.cells #[.string nm, .slice (some ⟨m, 0, none⟩) lm lm, .slice (some ⟨p, 0, none⟩) la la, .slice (some ⟨G1, 0, none⟩) N N, .slice (some ⟨G2, 0, none⟩) N N, .slice (some ⟨Mb, 0, none⟩) N N, .slice av lp ac] 67 (0, 0))) ∧ Hid (TgtR wx v nm m p lm la N lp XX YY al G1 G2 Mb av ac vs1 vs2 als) ∧ Hid (Below w1.heap.size w1 wx))
  case first =>
    obtain ⟨a0, a1, a2⟩ := HO.out _ D1.out
    obtain ⟨b0, b1, b2⟩ := HO.out _ (D2 (.cells #[.string ⟨#[]⟩, .slice none 0 0, .slice none 0 0, .slice none 0 0, .slice none 0 0, .slice none 0 0, .slice none 0 0] 67)).out
    have HP : Hid (∀ X, Below w1.heap.size w1 X → Calls Tryf.prog 23 #[.pointer (some ⟨d, 0, none⟩), .int .i64 0] X fun e w' => ∃ v, e = .returned v ∧ ∃ sb ib ia ic ga nn avs, v = .pointer (some ⟨sb, 0, none⟩) ∧ SwR w' sb d ib P ia ic N ga lp nn I ix hs avs A G s pl ql zp zo ∧ Below X.heap.size X w') := fun X hX => Calls.mono (HC23.out X hX) (fun e w' h => by
      obtain ⟨sb, ib, ia, ic, ga, nn, avs, rfl, h1, h2⟩ := h
      exact ⟨_, rfl, sb, ib, ia, ic, ga, nn, avs, rfl, h1, h2⟩)
    have HQ : Hid (∀ X sb ib ia ic ga nn avs, Below w1.heap.size w1 X → SwR X sb d ib P ia ic N ga lp nn I ix hs avs A G s pl ql zp zo → Calls Tryf.prog 24 #[.pointer (some ⟨sb, 0, none⟩), .agg #[.string nm, .slice (some ⟨m, 0, none⟩) lm lm, .slice (some ⟨p, 0, none⟩) la la]] X fun e w' => ∃ v, e = .returned v ∧ ∃ G1 G2 Mb av ac vs1 vs2 als, v = .agg #[.string nm, .slice (some ⟨m, 0, none⟩) lm lm, .slice (some ⟨p, 0, none⟩) la la, .slice (some ⟨G1, 0, none⟩) N N, .slice (some ⟨G2, 0, none⟩) N N, .slice (some ⟨Mb, 0, none⟩) N N, .slice av lp ac] ∧ TgtR w' v nm m p lm la N lp XX YY al G1 G2 Mb av ac vs1 vs2 als ∧ Below X.heap.size X w') := fun X sb ib ia ic ga nn avs hX hS => Calls.mono (HC24.out X sb ib ia ic ga nn avs hX hS) (fun e w' h => by
      obtain ⟨v, G1, G2, Mb, av, ac, vs1, vs2, als, rfl, h1, h2⟩ := h
      exact ⟨v, rfl, G1, G2, Mb, av, ac, vs1, vs2, als, h1.val, h1, h2⟩)
    have P1 := HP.out w1.drew D1.out
    have P2 := HP.out (w1.alloc (.cells #[.string ⟨#[]⟩, .slice none 0 0, .slice none 0 0, .slice none 0 0, .slice none 0 0, .slice none 0 0, .slice none 0 0] 67)).drew (D2 _).out
    clear HC23 HC24
    go_region_law (first
        | (refine step_call2 rfl 23 Tryf.func23 name23 body23 (.tmp 12) (.tmp 13) 36 3 rfl _ _ _ rfl rfl P1 ?_
           rintro _ w3 ⟨sb, ib, ia, ic, ga, nn, avs, rfl, hSW, hb3⟩
           have HB3 : Hid (Below w1.heap.size w1 w3) := D1.out.trans (hb3.mono D1.out.size)
           have HB3a : Hid (Below w1.heap.size w1 (w3.alloc (.cells #[.string ⟨#[]⟩, .slice none 0 0, .slice none 0 0, .slice none 0 0, .slice none 0 0, .slice none 0 0, .slice none 0 0] 67))) := HB3.out.alloc HB3.out.size _
           obtain ⟨a0, a1, a2⟩ := HO.out _ HB3.out
           obtain ⟨b0, b1, b2⟩ := HO.out _ HB3a.out
           have Q1 := HQ.out w3 _ _ _ _ _ _ _ HB3.out hSW
           have Q2 := HQ.out (w3.alloc (.cells #[.string ⟨#[]⟩, .slice none 0 0, .slice none 0 0, .slice none 0 0, .slice none 0 0, .slice none 0 0, .slice none 0 0] 67)) _ _ _ _ _ _ _ HB3a.out (hSW.below ((Below.refl _ _).alloc (Nat.le_refl _) _))
           have HA3 : Hid (True ∨ w3.heap[w1.heap.size]? = some (Obj.cells #[.string ⟨#[]⟩, .slice none 0 0, .slice none 0 0, .slice none 0 0, .slice none 0 0, .slice none 0 0, .slice none 0 0] 67 (0, 0))) := .inl trivial
           clear hSW hb3)
        | (refine step_call2 rfl 23 Tryf.func23 name23 body23 (.tmp 12) (.tmp 13) 36 3 rfl _ _ _ rfl rfl P2 ?_
           rintro _ w3 ⟨sb, ib, ia, ic, ga, nn, avs, rfl, hSW, hb3⟩
           have HB3 : Hid (Below w1.heap.size w1 w3) := (D2 (.cells #[.string ⟨#[]⟩, .slice none 0 0, .slice none 0 0, .slice none 0 0, .slice none 0 0, .slice none 0 0, .slice none 0 0] 67)).out.trans (hb3.mono (D2 (.cells #[.string ⟨#[]⟩, .slice none 0 0, .slice none 0 0, .slice none 0 0, .slice none 0 0, .slice none 0 0, .slice none 0 0] 67)).out.size)
           obtain ⟨a0, a1, a2⟩ := HO.out _ HB3.out
           have Q1 := HQ.out w3 _ _ _ _ _ _ _ HB3.out hSW
           have HA3 : Hid (w3.heap[w1.heap.size]? = some (Obj.cells #[.string ⟨#[]⟩, .slice none 0 0, .slice none 0 0, .slice none 0 0, .slice none 0 0, .slice none 0 0, .slice none 0 0] 67 (0, 0))) := (hb3.block _ (by simp)).trans (heap_alloc_new w1 _)
           clear hSW hb3)
        | (refine step_call2 rfl 24 Tryf.func24 name24 body24 (.tmp 14) (.tmp 15) 68 43 rfl _ _ _ rfl rfl Q2 ?_
           rintro _ w4 ⟨G1, G2, Mb, av, ac, vs1, vs2, als, rfl, hT, hb4⟩
           have HT4 : Hid (TgtR w4 _ nm m p lm la N lp XX YY al G1 G2 Mb av ac vs1 vs2 als) := hT
           have HB4 : Hid (Below w1.heap.size w1 w4) := HB3a.out.trans (hb4.mono HB3a.out.size)
           have HA4 : Hid (w4.heap[w3.heap.size]? = some (Obj.cells #[.string ⟨#[]⟩, .slice none 0 0, .slice none 0 0, .slice none 0 0, .slice none 0 0, .slice none 0 0, .slice none 0 0] 67 (0, 0))) := (hb4.block _ (by simp)).trans (heap_alloc_new w3 _)
           obtain ⟨z0, z1, z2, z3, z4, z5, z6, y0, y1, y2, y3, y4, y5, y6⟩ := cells7 HA4.out
           clear hT hb4)
        | (refine step_call2 rfl 24 Tryf.func24 name24 body24 (.tmp 14) (.tmp 15) 68 43 rfl _ _ _ rfl rfl Q1 ?_
           rintro _ w4 ⟨G1, G2, Mb, av, ac, vs1, vs2, als, rfl, hT, hb4⟩
           have HT4 : Hid (TgtR w4 _ nm m p lm la N lp XX YY al G1 G2 Mb av ac vs1 vs2 als) := hT
           have HB4 : Hid (Below w1.heap.size w1 w4) := HB3.out.trans (hb4.mono HB3.out.size)
           first
             | (have HA4 : Hid (w4.heap[w1.heap.size]? = some (Obj.cells #[.string ⟨#[]⟩, .slice none 0 0, .slice none 0 0, .slice none 0 0, .slice none 0 0, .slice none 0 0, .slice none 0 0] 67 (0, 0))) := (hb4.block _ (block_lt HA3.out)).trans HA3.out
                obtain ⟨z0, z1, z2, z3, z4, z5, z6, y0, y1, y2, y3, y4, y5, y6⟩ := cells7 HA4.out
                clear hT hb4)
             | clear hT hb4))
    all_goals (go_wp2_with fail; go_meet)
    all_goals
      case rel =>
        first
          | (have hz := zz_end HT4.out HB4.out HA4.out (by first | exact Nat.le_refl _ | exact HB3.out.size)
             exact hz)
          | (have hz := zz_new HT4.out HB4.out
             exact hz)
  case rest =>
    obtain ⟨T, v, G1, G2, Mb, av, ac, vs1, vs2, als, hs, HT, HR, HB⟩ := hcut
    subst hs
    have hc : wc.cell? ⟨T, 0, none⟩ = some (.string nm) ∧ wc.cell? ⟨T, 3, none⟩ = some (.slice (some ⟨G1, 0, none⟩) N N) ∧ wc.cell? ⟨T, 4, none⟩ = some (.slice (some ⟨G2, 0, none⟩) N N) ∧ wc.cell? ⟨T, 5, none⟩ = some (.slice (some ⟨Mb, 0, none⟩) N N) ∧ wc.cell? ⟨T, 6, none⟩ = some (.slice av lp ac) := by simp [World.cell?, HT.out]
    have HRd : Hid (TgtR wc.drew v nm m p lm la N lp XX YY al G1 G2 Mb av ac vs1 vs2 als) := HR.out.below (Below.refl _ _).drew
    have HBd : Hid (Below w.heap.size w wc.drew) := (HB1.out.trans (HB.out.mono HB1.out.size)).drew
    obtain ⟨c0, c3, c4, c5, c6⟩ := hc
    go_wp2_with fail
    go_region
    all_goals
      go_wp2
      (try simp only [Exit.inBlock, Exit.then])
      refine bodyPost_ret (results_tmp5 rfl _ _ _) rfl ?_
      exact ⟨v, G1, G2, Mb, av, ac, vs1, vs2, als, rfl, HRd.out, HBd.out⟩
end Go.Proofs.Qxb6605818aFmt
