import Derived.Test.Qxb6605919aDoorRcWalks
import Derived.Test.Qxb6605919aDoorTie
import Derived.Test.Qxb6605919aDoorCards
import Derived.ProofKit
import Derived.LaidMore
import Derived.OpenShut
import Derived.Stop.Joined
import Derived.SevenTiedAt
import Derived.Stop.LaidErr
namespace Go.Proofs.Qxb6605919aDoor.fnRunCountStringOrdersAsNumbers
open Go.ChangeShapes Go.WideShapes Go.ChangeAt Go.RowKit

theorem own : ownKnob Tryd.prog.godebug = none := by kernel_rfl

theorem wf_hid {n : Int} (h : (Lit.int .i64 n).wf = true) : Hid (-9223372036854775808 ≤ n ∧ n ≤ 9223372036854775807) := by
  have := bounds_i64 h
  exact this

theorem walk (a0 a1 : Int) (h0 : Hid (-9223372036854775808 ≤ a0 ∧ a0 ≤ 9223372036854775807)) (h1 : Hid (-9223372036854775808 ≤ a1 ∧ a1 ≤ 9223372036854775807)) (w : World) (htab : Rc.Tab w) :
    Calls Tryd.prog 4 #[.int .i64 a0, .int .i64 a1] w fun e w' => e = .returned (.bool true) ∧ Below w.heap.size w w' := by
  by_cases h : 0 ≤ a0 ∧ 0 ≤ a1
  · exact Rc.orders_main a0 a1 h0 h1 h.1 h.2 w htab
  · exact Rc.orders_early a0 a1 (by omega) w

def laid3 : List (String × DataW Unit) := [("math/bits.deBruijn32tab", Rows.laid_math_bits_deBruijn32tab), ("math/bits.deBruijn64tab", Rows.laid_math_bits_deBruijn64tab), ("internal/strconv.uint64pow10", Rows.laid_internal_strconv_uint64pow10)]

theorem tPow : (Tryd.prog.globals[0]?).map (·.type) = some 41 := by kernel_rfl
theorem cells23 : Tryd.prog.cellsOf 23 = 1 := by kernel_rfl
theorem cells41 : Tryd.prog.cellsOf 41 = 20 := by kernel_rfl

/-- The door's own heap meets the condition. -/
theorem door_met (os : Os) (args : Array Value) : laidMetH Tryd.prog laid3 ((World.doorLaid Tryd.prog 400 os).forCall (fun _ _ => 0) ⟨#[], args, []⟩).memory :=
  laidMetH_of_parts3 (fuel := 8) (laidMet_of_run' 8 (by kernel_rfl) (by kernel_rfl)) (by kernel_rfl) (by kernel_rfl)

/-- What the condition gives the walk: the table of powers of ten. -/
theorem tab_of_laid {W : World} (h : laidMetH Tryd.prog laid3 W) : Rc.Tab W := by
  rw [MakeChecks.laidMetH_plain _ _ _ (by kernel_rfl)] at h
  have h1 : laidMet Tryd.prog [("math/bits.deBruijn32tab", Rows.laid_math_bits_deBruijn32tab), ("math/bits.deBruijn64tab", Rows.laid_math_bits_deBruijn64tab), ("internal/strconv.uint64pow10", Rows.laid_internal_strconv_uint64pow10)] W := h
  have h2 := laidMet.tail (laidMet.tail h1)
  exact Lib.tabIs_of_head (zs := Lib.pow10Tab) (rest := []) Rc.gPow tPow Tryd.underlying41 Tryd.underlying23 cells23 cells41 h2

set_option maxRecDepth 100000 in
theorem lifted (os : Os) (started : os.Started) (H : Type) (enc : TypeId × Value → H) :
    ReturnsInHanded {} Tryd.checked os 4 .any (fun w args => (Rows.fnRunCountStringOrdersAsNumbersSpec.pre enc Tryd.prog Tryd.f4 [] false w args ∧ laidMetH Tryd.prog laid3 w) ∧ sizedMet enc Tryd.prog Tryd.f4 (OpenSpec.ofChange Rows.fnRunCountStringOrdersAsNumbersSpec) false w args)
      (Rows.fnRunCountStringOrdersAsNumbersSpec.post enc Tryd.prog Tryd.f4 false true false false) := by
  refine returnsInHanded_of_change_and (C := Tryd.checked) (X := fun w _ => laidMetH Tryd.prog laid3 w) (fun _ _ _ hh h => h.of_heap hh) own started (by kernel_rfl) Tryd.func4
    (ChangeSpec.witness_shaped (enc := enc) (C := Tryd.checked) (os := os) (X := fun w _ => laidMetH Tryd.prog laid3 w) false (World.doorLaid Tryd.prog 400 os) #[.int .i64 0, .int .i64 0] 8 rfl (World.shaped_of_RefB (by kernel_rfl) (by kernel_rfl)) (by kernel_rfl) (by kernel_rfl) (by kernel_rfl) (door_met os _)) ?_
  intro W base args ds gs before hval0 hW _ _ hL _
  have hval : ∀ (j : Nat) t v, Tryd.f4.params[j]? = some t → args[j]? = some v → Value.okWide Tryd.prog W .any base t v := hval0
  have hW' := hW
  obtain ⟨p, q, hA0, hV, rfl, hfz, hnd⟩ := hW
  have hA : DataW.TrodAll enc Tryd.prog W 0 (fun _ => true) true Tryd.f4.params.toList args.toList ds p := hA0
  rw [Tryd.params4] at hA hval
  obtain ⟨v0, v1, d0, d1, p0, p1, rfl, rfl, rfl, h0, h1⟩ := trodAll_two hA
  obtain ⟨rfl, rfl⟩ := trodVars_none hV
  obtain ⟨a0, rfl, rfl, rfl, w0⟩ := open_int Tryd.underlying3 (hval 0 3 v0 rfl rfl) h0
  obtain ⟨a1, rfl, rfl, rfl, w1⟩ := open_int Tryd.underlying3 (hval 1 3 v1 rfl rfl) h1
  clear hA0 hval0
  refine (walk a0 a1 (wf_hid w0) (wf_hid w1) W (tab_of_laid hL)).mono fun e W' ⟨he, bel⟩ => ?_
  subst he
  exact ⟨_, rfl, _, _, _, [], [], [], hW', trodAll_mk1 (shut_bool Tryd.underlying4 _), (trodAll_mk2 (shut_int Tryd.underlying3 w0) (shut_int Tryd.underlying3 w1)), rfl, bel.frame _, fun h => by cases h⟩

theorem over : Rows.FnRunCountStringOrdersAsNumbersSaid :=
  OpenClaim.holds_of_wide 4 Tryd.f4 rfl rfl rfl rfl rfl rfl rfl ⟨rfl, rfl, rfl, rfl, rfl⟩ rfl rfl rfl rfl rfl (by kernel_rfl) Tryd.func4 (by kernel_rfl)
    (of_decide_eq_true (by kernel_rfl)) (by unfold Func.isWrapper; first | (rw [if_pos (by decide +kernel)]; kernel_rfl) | (rw [if_neg (by decide +kernel)]; exact ⟨rfl, rfl⟩))
    (fun os started H enc _ => lifted os started H enc)

theorem named : Tryd.prog.funcNamed Tryd.f4.name = some 4 := by kernel_rfl

/-- THE STATEMENT: the tied card. -/
theorem proved : Rows.FnRunCountStringOrdersAsNumbersCardSaid :=
  Claim7.holds_tied_plain_at .later [] [.data, .data, .data] true (true, "e7f891d601b1c97167c62ef26326f8ff68499d94951dfb6546c4b0e412d37b46") false
    over (fun _ h => by cases h) (by kernel_rfl) (fun _ h => by cases h) fnRunCountStringOrdersAsNumbers_row_tie rfl ⟨rfl, rfl⟩ (by kernel_rfl) rfl
    (fun f fn hf hfn => by
      obtain rfl : f = 4 := Option.some.inj (named.symm.trans hf) |>.symm
      obtain rfl : fn = Tryd.f4 := (Option.some.inj (Tryd.func4.symm.trans hfn)).symm
      exact ⟨by kernel_rfl, fun j t ht => by
        rw [Tryd.params4] at ht
        have hm : t ∈ [3, 3] := by simpa using Array.mem_of_getElem? ht
        have hall : ([3, 3].all fun u => !Tryd.prog.wantsStandIn u) = true := by kernel_rfl
        exact (show Tryd.prog.wantsStandIn t = false by simpa using List.all_eq_true.1 hall t hm)⟩)
    (by kernel_rfl)
end Go.Proofs.Qxb6605919aDoor.fnRunCountStringOrdersAsNumbers
