import Derived.Test.Qxb6605818aFmtLaw1
import Derived.Test.Qxb6605818aFmtSw2
namespace Go.Proofs.Qxb6605818aFmt
open Go.RowKit Go.Maps Go.Stop
set_option linter.unusedVariables false

theorem named_inStr {s : Nat → ByteArray} {n : Nat} {zm : Nat → Int} {lm : Nat} (hd : Distinct s n) (hm : allIn n zm lm) {z : Int} (h : named n (fun i => inInt zm i lm) z = true) : inStr (pick s zm) (s z.toNat) lm = true := by
  obtain ⟨j, rfl, hj, hb⟩ := named_at h
  rw [Int.toNat_natCast, inStr_pick hd hm hj]
  exact hb

theorem givesZ (F0 : Interp) (n lm la lb lp lo : Nat) (s : Nat → ByteArray) (zm za zb : Nat → Int) (pl ql : Nat → Nat) (zp zo : Nat → Nat → Int) (w : World) (hF0 : F0.answers w.tape) (hF : Fits s pl ql n lp lo) (hP : Premise s n zm lm za zb la lb lp lo zp zo pl ql) (b0 : n ≤ 4096) (b1 : lm ≤ 4096) (b2 : la ≤ 4096) (b4 : lp ≤ 4096) :
    GivesZ w n lm la lp s zm za zb pl ql zp zo := by
  intro X d S O P m0 p0 m1 p1 F G hX hD hsh
  obtain rfl := hP.lab
  obtain rfl := hP.lpo
  have hb : ∀ j, j < n → inStr (pick s zm) (s j) lm = inInt zm j lm := fun j hj => inStr_pick hP.dist hP.mIn hj
  have hNN : (idl (pick s zm) lm s n).length = rank (fun i => inInt zm i lm) n := idl_rank hb n (Nat.le_refl _)
  have hs : ∀ j, j < n → (s j).size ≤ 1048576 := hF.1
  have hpl : ∀ q, q < lp → pl q ≤ 2000000 := fun q hq => by have := hF.2.1 q hq; omega
  have hql : ∀ q, q < lp → ql q ≤ 2000000 := fun q hq => by have := hF.2.2 q hq; omega
  have hMs : ∀ i, i < lm → ∃ j, j < n ∧ s j = pick s zm i := fun i hi => by
    obtain ⟨h1, h2⟩ := hP.mIn i hi
    exact ⟨(zm i).toNat, by omega, rfl⟩
  have hfg : ∀ k, k < la → inStr (pick s zm) (pick s za k) lm = true ∧ inStr (pick s zm) (pick s zb k) lm = true := fun k hk => ⟨named_inStr hP.dist hP.mIn (hP.ab k hk).1, named_inStr hP.dist hP.mIn (hP.ab k hk).2⟩
  have hsk : ∀ j, j < n → strKey (s j) := fun j hj => by have := hs j hj; unfold strKey maxLen; omega
  have key : ∀ x, inStr (pick s zm) x lm = true → strKey x ∧ hsf (pick s zm) lm s n x = true ∧ ixf (pick s zm) lm s n x < rank (fun i => inInt zm i lm) n := fun x hx => by
    obtain ⟨i, hi, rfl⟩ := (inStr_iff _ _ _).1 hx
    obtain ⟨j, hj, hjs⟩ := hMs i hi
    rw [← hjs] at hx ⊢
    have h2 := hsf_of (M := pick s zm) (lm := lm) (s := s) n hj hx
    exact ⟨hsk j hj, h2, by have := ixf_lt n (s j) h2; rw [hNN] at this; exact this⟩
  have h23 : Gives23 X d P (rank (fun i => inInt zm i lm) n) lp (fun i => (idl (pick s zm) lm s n).getD i ⟨#[]⟩) (ixf (pick s zm) lm s n) (hsf (pick s zm) lm s n) (fun i => bs (ixf (pick s zm) lm s n) (pick s za) (pick s zb) i la) G s pl ql zp zo := fun Y hY => by
    have h := switching_any F0 d S O P m0 p0 m1 p1 n lm la lp F G s (pick s zm) (pick s za) (pick s zb) pl ql zp zo Y (by rw [hY.tape, hX.tape]; exact hF0) b0 b1 b2 b4 (hD.below hY) hsh hs hMs hfg hpl hql
    rw [hNN] at h
    exact h
  have h24 : Gives24 X d P (rank (fun i => inInt zm i lm) n) lp (fun i => (idl (pick s zm) lm s n).getD i ⟨#[]⟩) (ixf (pick s zm) lm s n) (hsf (pick s zm) lm s n) (fun i => bs (ixf (pick s zm) lm s n) (pick s za) (pick s zb) i la) G s pl ql zp zo litTo m1 p1 lm la (XL n lm la s zm za zb) (fun j => yf (XL n lm la s zm za zb) j (rank (fun i => inInt zm i lm) n)) (alw s pl ql zp zo (fun i => (idl (pick s zm) lm s n).getD i ⟨#[]⟩)) := fun Y sb ib ia ic ga nn avs hY hSW =>
    target_any sb d ib P ia ic (rank (fun i => inInt zm i lm) n) ga lp nn (fun i => (idl (pick s zm) lm s n).getD i ⟨#[]⟩) (ixf (pick s zm) lm s n) (hsf (pick s zm) lm s n) avs (fun i => bs (ixf (pick s zm) lm s n) (pick s za) (pick s zb) i la) G s pl ql zp zo litTo m1 p1 lm la (pick s zm) (pick s za) (pick s zb) Y (by have := rank_le (fun i => inInt zm i lm) n; omega) b1 b2 b4
      (fun k hk => ⟨(key _ (hfg k hk).1).1, (key _ (hfg k hk).2).1, (key _ (hfg k hk).1).2.1, (key _ (hfg k hk).2).2.1, (key _ (hfg k hk).1).2.2, (key _ (hfg k hk).2).2.2⟩)
      (fun i hi => by
        have hi2 : i < (idl (pick s zm) lm s n).length := by rw [hNN]; exact hi
        have e : (idl (pick s zm) lm s n).getD i ⟨#[]⟩ = (idl (pick s zm) lm s n)[i] := by simp [List.getD, hi2]
        show inStr (pick s zm) ((idl (pick s zm) lm s n).getD i ⟨#[]⟩) lm = true
        rw [e]
        exact idl_mem n _ (List.getElem_mem hi2))
      (fun i hi => Nat.le_trans (bs_length _ _ _ _ _) b2)
      (fun i hi j hj => by
        obtain ⟨k, hk, rfl⟩ := bs_mem _ _ _ _ _ _ hj
        exact (key _ (hfg k hk).2).2.2)
      (fun i hi => (key _ ((inStr_iff _ _ _).2 ⟨i, hi, rfl⟩)).1) (fun i hi => (key _ ((inStr_iff _ _ _).2 ⟨i, hi, rfl⟩)).2.1) hpl hql hSW (rowIs_below hD.mem1 hY) (rowIs_below hD.prec1 hY)
  exact zz_core d P (rank (fun i => inInt zm i lm) n) lp _ _ _ _ G s pl ql zp zo litTo m1 p1 lm la (XL n lm la s zm za zb) (fun j => yf (XL n lm la s zm za zb) j (rank (fun i => inInt zm i lm) n)) _ X h23 h24

/-- The law, for every input that can be read. -/
theorem law_any (F0 : Interp) (a0 a1 a2 a3 a4 a5 : Option Addr) (n c0 lm c1 la c2 lb c3 lp c4 lo c5 : Nat) (s : Nat → ByteArray) (zm za zb : Nat → Int) (pa qa : Nat → Option Addr) (pl pc ql qc : Nat → Nat) (zp zo : Nat → Nat → Int) (w : World) (hF0 : F0.answers w.tape)
    (h0 : Sl w a0 n (strV s)) (h1 : Sl w a1 lm (intV zm)) (h2 : Sl w a2 la (intV za)) (h3 : Sl w a3 lb (intV zb)) (h4 : Rows2 w a4 lp pa pl pc zp) (h5 : Rows2 w a5 lo qa ql qc zo)
    (i0 : a0 = none → n = 0 ∧ c0 = 0) (i1 : a1 = none → lm = 0 ∧ c1 = 0) (i2 : a2 = none → la = 0 ∧ c2 = 0) (i3 : a3 = none → lb = 0 ∧ c3 = 0) (i4 : a4 = none → lp = 0 ∧ c4 = 0) (i5 : a5 = none → lo = 0 ∧ c5 = 0) :
    Calls Tryf.prog 3 #[.slice a0 n c0, .slice a1 lm c1, .slice a2 la c2, .slice a3 lb c3, .slice a4 lp c4, .slice a5 lo c5] w fun e w' => e = .returned (.bool true) ∧ Below w.heap.size w w' :=
  law_core a0 a1 a2 a3 a4 a5 n c0 lm c1 la c2 lb c3 lp c4 lo c5 s zm za zb pa qa pl pc ql qc zp zo w h0 h1 h2 h3 h4 h5 i0 i1 i2 i3 i4 i5 (fun hF hP b0 b1 b2 b4 => givesZ F0 n lm la lb lp lo s zm za zb pl ql zp zo w hF0 hF hP b0 b1 b2 b4)
end Go.Proofs.Qxb6605818aFmt
