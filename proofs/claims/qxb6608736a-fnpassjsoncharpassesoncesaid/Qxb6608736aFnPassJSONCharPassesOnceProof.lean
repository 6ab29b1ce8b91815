/-
  The proof of Rows.FnPassJSONCharPassesOnceSaid: the given shell, its one gap filled (the walk: Qxb6608736aPjWalks, Qxb6608736aPjLaw).
-/
import Derived.Test.Qxb6608736aRows
import Derived.Test.Qxb6608736aPjLaw
import Derived.WalkKit
import Derived.ProofKit
import Derived.OpenShut
import Derived.ShutString
namespace Go.Proofs.Qxb6608736a.fnPassJSONCharPassesOnce
open Go.ChangeShapes Go.WideShapes Go.ChangeAt Go.RowKit
open Go.ChangeMaps (open_string shut_string)
set_option linter.unusedVariables false      -- a walk need not use every 'w<i>' (that an integer argument fits its kind)

theorem own : ownKnob Try.prog.godebug = none := by kernel_rfl


theorem early_m (a0 a1 a2 : Int) (a3 : Bool) (a4 : Int) (a5 : ByteArray) (w5 : a5.size ≤ maxLen) (w : World) (hmd : decide (a5.size ≤ 1048576) = false) :
    Calls Try.prog 6 #[.int .i64 a0, .int .i64 a1, .int .i64 a2, .bool a3, .int .i32 a4, .string a5] w fun e w' => e = .returned (.bool true) ∧ Pj.Gr w w' := by
  go_enter Try.func6, Try.ntmps6
  go_wp2_with (first | (go_at_call 11; refine (Pj.bytes_any _ _ _ _ _ _ _ w5).mono ?_; rintro e w' ⟨rfl, hw⟩; obtain rfl := hw.symm) | (go_at_call 12; refine (Pj.stops_any _ _).mono ?_; rintro e w' ⟨rfl, hw⟩; obtain rfl := hw.symm))
  all_goals (go_ret; exact ⟨rfl, Pj.Gr.refl _⟩)

theorem early_pv (a0 a1 a2 : Int) (a3 : Bool) (a4 : Int) (a5 : ByteArray) (w5 : a5.size ≤ maxLen) (w : World) (hmd : decide (a5.size ≤ 1048576) = true) (h : a0 < 0 ∨ a1 < a0 ∨ 2305843009213693951 < a1) :
    Calls Try.prog 6 #[.int .i64 a0, .int .i64 a1, .int .i64 a2, .bool a3, .int .i32 a4, .string a5] w fun e w' => e = .returned (.bool true) ∧ Pj.Gr w w' := by
  have hm2 : ¬ (1048576 : Int) < (a5.size : Int) := by have := of_decide_eq_true hmd; omega
  by_cases h0 : a0 < 0
  · go_enter Try.func6, Try.ntmps6
    go_wp2_with (first | (go_at_call 11; refine (Pj.bytes_any _ _ _ _ _ _ _ w5).mono ?_; rintro e w' ⟨rfl, hw⟩; obtain rfl := hw.symm) | (go_at_call 12; refine (Pj.stops_any _ _).mono ?_; rintro e w' ⟨rfl, hw⟩; obtain rfl := hw.symm))
    all_goals (go_ret; exact ⟨rfl, Pj.Gr.refl _⟩)
  · by_cases h1 : a1 < a0
    · go_enter Try.func6, Try.ntmps6
      go_wp2_with (first | (go_at_call 11; refine (Pj.bytes_any _ _ _ _ _ _ _ w5).mono ?_; rintro e w' ⟨rfl, hw⟩; obtain rfl := hw.symm) | (go_at_call 12; refine (Pj.stops_any _ _).mono ?_; rintro e w' ⟨rfl, hw⟩; obtain rfl := hw.symm))
      all_goals (go_ret; exact ⟨rfl, Pj.Gr.refl _⟩)
    · have h2 : 2305843009213693951 < a1 := by omega
      clear h
      go_enter Try.func6, Try.ntmps6
      go_wp2_with (first | (go_at_call 11; refine (Pj.bytes_any _ _ _ _ _ _ _ w5).mono ?_; rintro e w' ⟨rfl, hw⟩; obtain rfl := hw.symm) | (go_at_call 12; refine (Pj.stops_any _ _).mono ?_; rintro e w' ⟨rfl, hw⟩; obtain rfl := hw.symm))
      all_goals (go_ret; exact ⟨rfl, Pj.Gr.refl _⟩)

theorem early_i (a0 a1 a2 : Int) (a3 : Bool) (a4 : Int) (a5 : ByteArray) (w5 : a5.size ≤ maxLen) (w : World) (hmd : decide (a5.size ≤ 1048576) = true) (p0 : 0 ≤ a0) (pv : a0 ≤ a1) (v1 : a1 ≤ 2305843009213693951) (h : a2 < 0 ∨ 2305843009213693951 < a2) :
    Calls Try.prog 6 #[.int .i64 a0, .int .i64 a1, .int .i64 a2, .bool a3, .int .i32 a4, .string a5] w fun e w' => e = .returned (.bool true) ∧ Pj.Gr w w' := by
  have hm2 : ¬ (1048576 : Int) < (a5.size : Int) := by have := of_decide_eq_true hmd; omega
  by_cases h0 : a2 < 0
  · go_enter Try.func6, Try.ntmps6
    go_wp2_with (first | (go_at_call 11; refine (Pj.bytes_any _ _ _ _ _ _ _ w5).mono ?_; rintro e w' ⟨rfl, hw⟩; obtain rfl := hw.symm) | (go_at_call 12; refine (Pj.stops_any _ _).mono ?_; rintro e w' ⟨rfl, hw⟩; obtain rfl := hw.symm))
    all_goals (go_ret; exact ⟨rfl, Pj.Gr.refl _⟩)
  · have h2 : 2305843009213693951 < a2 := by omega
    clear h
    go_enter Try.func6, Try.ntmps6
    go_wp2_with (first | (go_at_call 11; refine (Pj.bytes_any _ _ _ _ _ _ _ w5).mono ?_; rintro e w' ⟨rfl, hw⟩; obtain rfl := hw.symm) | (go_at_call 12; refine (Pj.stops_any _ _).mono ?_; rintro e w' ⟨rfl, hw⟩; obtain rfl := hw.symm))
    all_goals (go_ret; exact ⟨rfl, Pj.Gr.refl _⟩)

theorem early_st (a0 a1 a2 : Int) (a4 : Int) (a5 : ByteArray) (w5 : a5.size ≤ maxLen) (w : World) (hmd : decide (a5.size ≤ 1048576) = true) (p0 : 0 ≤ a0) (pv : a0 ≤ a1) (v1 : a1 ≤ 2305843009213693951) (i0 : 0 ≤ a2) (i1 : a2 ≤ 2305843009213693951) (hst : Pj.stB a4 = false) :
    Calls Try.prog 6 #[.int .i64 a0, .int .i64 a1, .int .i64 a2, .bool true, .int .i32 a4, .string a5] w fun e w' => e = .returned (.bool true) ∧ Pj.Gr w w' := by
  have hm2 : ¬ (1048576 : Int) < (a5.size : Int) := by have := of_decide_eq_true hmd; omega
  go_enter Try.func6, Try.ntmps6
  go_wp2_with (first | (go_at_call 11; refine (Pj.bytes_any _ _ _ _ _ _ _ w5).mono ?_; rintro e w' ⟨rfl, hw⟩; obtain rfl := hw.symm) | (go_at_call 12; refine (Pj.stops_any _ _).mono ?_; rintro e w' ⟨rfl, hw⟩; obtain rfl := hw.symm))
  all_goals (go_ret; exact ⟨rfl, Pj.Gr.refl _⟩)

/-! ### STEP 1: THE WALK: the Go text returns true. 'Grown w w'': the world has at most new blocks (Derived/RowKit3.lean). Part the cases AHEAD of 'go_enter' where a test parts the walk; take each callee by a contract of your own. -/
theorem walk (a0 : Int) (a1 : Int) (a2 : Int) (a3 : Bool) (a4 : Int) (a5 : ByteArray) (w0 : (Lit.int .i64 a0).wf = true) (w1 : (Lit.int .i64 a1).wf = true) (w2 : (Lit.int .i64 a2).wf = true) (w4 : (Lit.int .i32 a4).wf = true) (w5 : a5.size ≤ maxLen) (w : World) :
    Calls Try.prog 6 #[.int .i64 a0, .int .i64 a1, .int .i64 a2, .bool a3, .int .i32 a4, .string a5] w fun e w' => e = .returned (.bool true) ∧ Grown w w' := by
  refine Calls.mono (R := fun e w' => e = .returned (.bool true) ∧ Pj.Gr w w') ?_ (fun _ _ h => ⟨h.1, h.2.grown⟩)
  by_cases hm : a5.size ≤ 1048576
  · have hmd : decide (a5.size ≤ 1048576) = true := by simpa using hm
    have hm2 : ¬ (1048576 : Int) < (a5.size : Int) := by omega
    by_cases h1 : 0 ≤ a0 ∧ a0 ≤ a1 ∧ a1 ≤ 2305843009213693951
    · obtain ⟨p0, pv, v1⟩ := h1
      by_cases h2 : 0 ≤ a2 ∧ a2 ≤ 2305843009213693951
      · obtain ⟨i0, i1⟩ := h2
        cases a3
        · exact Pj.law_nil a0 a1 a2 a4 a5 w w5 hm p0 pv v1 i0 i1
        · cases hst : Pj.stB a4
          · exact early_st a0 a1 a2 a4 a5 w5 w hmd p0 pv v1 i0 i1 hst
          · cases hq : Pj.qB a4
            · exact Pj.law_no a0 a1 a2 a4 a5 w w5 hm p0 pv v1 i0 i1 hst hq
            · by_cases he : a0 + a2 = a1
              · exact Pj.law_yes a0 a1 a2 a4 a5 w w5 hm p0 pv v1 i0 i1 hst hq he
              · exact Pj.law_off a0 a1 a2 a4 a5 w w5 hm p0 pv v1 i0 i1 hst hq he
      · exact early_i a0 a1 a2 a3 a4 a5 w5 w hmd p0 pv v1 (by omega)
    · exact early_pv a0 a1 a2 a3 a4 a5 w5 w hmd (by omega)
  · exact early_m a0 a1 a2 a3 a4 a5 w5 w (by simpa using hm)

/-! ### THE ROW's STEP: WRITTEN OUT: LEAVE IT -/
set_option maxRecDepth 100000 in
theorem lifted (os : Os) (started : os.Started) (H : Type) (enc : TypeId × Value → H) :
    ReturnsInHanded {} Try.checked os 6 .any (Rows.fnPassJSONCharPassesOnceSpec.pre6 enc Try.prog Try.f6 Rows.fnPassJSONCharPassesOnceRow.domain false) (Rows.fnPassJSONCharPassesOnceSpec.post enc Try.prog Try.f6 false true false false) := by
  refine returnsInHanded_of_change (C := Try.checked) own started (by kernel_rfl) Try.func6
    (ChangeSpec.witness6 (enc := enc) (C := Try.checked) false ⟨#[], #[.int .i64 0, .int .i64 0, .int .i64 0, .bool false, .int .i32 0, .string ByteArray.empty], []⟩ 8 (by kernel_rfl) (by kernel_rfl) (by kernel_rfl) (by kernel_rfl)) ?_
  intro W base args ds gs before hval0 hW hcnd _
  have hval : ∀ (j : Nat) t v, Try.f6.params[j]? = some t → args[j]? = some v → Value.okWide Try.prog W .any base t v := hval0
  have hW' := hW
  obtain ⟨p, q, hA0, hV, rfl, hfz, hnd⟩ := hW
  have hA : DataW.TrodAll enc Try.prog W 0 (fun _ => true) true Try.f6.params.toList args.toList ds p := hA0
  rw [Try.params6] at hA hval
  obtain ⟨v0, vs0, d0, ds0, p0, q0, hargs, rfl, rfl, h0, r0⟩ := trodAll_cons hA
  obtain ⟨v1, vs1, d1, ds1, p1, q1, rfl, rfl, rfl, h1, r1⟩ := trodAll_cons r0
  obtain ⟨v2, vs2, d2, ds2, p2, q2, rfl, rfl, rfl, h2, r2⟩ := trodAll_cons r1
  obtain ⟨v3, vs3, d3, ds3, p3, q3, rfl, rfl, rfl, h3, r3⟩ := trodAll_cons r2
  obtain ⟨v4, vs4, d4, ds4, p4, q4, rfl, rfl, rfl, h4, r4⟩ := trodAll_cons r3
  obtain ⟨v5, vs5, d5, ds5, p5, q5, rfl, rfl, rfl, h5, r5⟩ := trodAll_cons r4
  obtain ⟨rfl, rfl, rfl⟩ := trodAll_nil r5
  obtain rfl : args = #[v0, v1, v2, v3, v4, v5] := by cases args; simp_all
  obtain ⟨rfl, rfl⟩ := trodVars_none hV
  obtain ⟨a0, rfl, rfl, rfl, w0⟩ := open_int Try.underlying3 (hval 0 3 v0 rfl rfl) h0
  obtain ⟨a1, rfl, rfl, rfl, w1⟩ := open_int Try.underlying3 (hval 1 3 v1 rfl rfl) h1
  obtain ⟨a2, rfl, rfl, rfl, w2⟩ := open_int Try.underlying3 (hval 2 3 v2 rfl rfl) h2
  obtain ⟨a3, rfl, rfl, rfl⟩ := open_bool Try.underlying4 (hval 3 4 v3 rfl rfl) h3
  obtain ⟨a4, rfl, rfl, rfl, w4⟩ := open_int Try.underlying21 (hval 4 21 v4 rfl rfl) h4
  obtain ⟨a5, rfl, rfl, rfl, w5⟩ := open_string Try.underlying9 (hval 5 9 v5 rfl rfl) h5
  clear hA0 hval0
  simp only [List.append_nil] at hW'
  refine (walk a0 a1 a2 a3 a4 a5 w0 w1 w2 w4 w5 W).mono fun e W' ⟨he, hg⟩ => ?_
  subst he
  exact ⟨_, rfl, post_of_same (pa := []) (pv := []) hW' (fun _ _ _ => (trodAll_cons_mk (shut_bool Try.underlying4 _) trodAll_mk0)) (fun sp _ => (trodAll_cons_mk (shut_int Try.underlying3 w0) (trodAll_cons_mk (shut_int Try.underlying3 w1) (trodAll_cons_mk (shut_int Try.underlying3 w2) (trodAll_cons_mk (shut_bool Try.underlying4 _) (trodAll_cons_mk (shut_int Try.underlying21 w4) (trodAll_cons_mk (shut_string Try.underlying9 w5) trodAll_mk0))))))) (fun _ _ => rfl) rfl
    (hg.frame _) hg.2.1 (ok_one (by kernel_rfl) rfl (okWide_bool_mk Try.underlying4 _))⟩

theorem over : Rows.fnPassJSONCharPassesOnceRow.holds Try.pinned (OpenSpec.ofChange Rows.fnPassJSONCharPassesOnceSpec) :=
  OpenClaim.holds_of_wide 6 Try.f6 rfl rfl rfl rfl rfl rfl rfl ⟨rfl, rfl, rfl, rfl, rfl⟩ rfl rfl rfl rfl rfl (by kernel_rfl) Try.func6 (by kernel_rfl)
    (of_decide_eq_true (by kernel_rfl)) (by unfold Func.isWrapper; first | (rw [if_pos (by decide +kernel)]; kernel_rfl) | (rw [if_neg (by decide +kernel)]; exact ⟨rfl, rfl⟩))
    (fun os started H enc _ => lifted os started H enc)

/-- ████ THE STATEMENT ████ -/
theorem proved : Rows.FnPassJSONCharPassesOnceSaid :=
  over
end Go.Proofs.Qxb6608736a.fnPassJSONCharPassesOnce
