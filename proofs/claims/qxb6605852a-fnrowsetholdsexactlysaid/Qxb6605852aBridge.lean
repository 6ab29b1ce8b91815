import Derived.Test.Qxb6605852aEnter
namespace Go.Proofs.Qxb6605852a
open Go.RowKit
set_option linter.unusedVariables false

theorem u32_fits (n : Int) (h : (Lit.int .u32 n).wf = true) : 0 ≤ n ∧ n < (4294967296 : Nat) := by
  have h1 : IntKind.u32.min = 0 := by decide
  have h2 : IntKind.u32.max = 4294967295 := by decide
  simp [Lit.wf, h1, h2] at h
  omega
theorem u8_fits (n : Int) (h : (Lit.int .u8 n).wf = true) : 0 ≤ n ∧ n < (256 : Nat) := by
  have h1 : IntKind.u8.min = 0 := by decide
  have h2 : IntKind.u8.max = 255 := by decide
  simp [Lit.wf, h1, h2] at h
  omega

theorem in_of_row {k : IntKind} {M : Nat} (hk : ∀ n : Int, (Lit.int k n).wf = true → 0 ≤ n ∧ n < (M : Int)) {w : World} {a : Option Addr} {len cap : Nat} {zs : List Int}
    (h : (a = none ∧ len = 0 ∧ cap = 0 ∧ zs = []) ∨ ∃ x, a = some x ∧ len ≤ cap ∧ cap ≤ maxLen ∧ zs.length = cap ∧ (∀ i, i < zs.length → w.cell? (x.add i) = some (.int k (zs.getD i 0))) ∧ ∀ n ∈ zs, (Lit.int k n).wf = true) :
    In k w a len cap (zs.map Int.toNat) ∧ len ≤ maxLen ∧ ∀ i, i < len → gw (zs.map Int.toNat) i < M := by
  rcases h with ⟨rfl, rfl, rfl, rfl⟩ | ⟨x, rfl, h1, h2, h3, h4, h5⟩
  · exact ⟨.inl ⟨rfl, rfl, rfl⟩, Nat.zero_le _, fun i hi => absurd hi (by omega)⟩
  · have key : ∀ i, i < len → ((gw (zs.map Int.toNat) i : Nat) : Int) = zs.getD i 0 ∧ gw (zs.map Int.toNat) i < M := by
      intro i hi
      have hi' : i < zs.length := by omega
      have hb := hk _ (h5 _ (List.getElem_mem hi'))
      have e1 : gw (zs.map Int.toNat) i = (zs[i]).toNat := by
        rw [gw_of_lt (by simpa using hi')]
        simp
      have e2 : zs.getD i 0 = zs[i] := by simp [List.getD, hi']
      rw [e1, e2]
      omega
    exact ⟨.inr ⟨x, rfl, by simp; omega, fun i hi => by rw [(key i hi).1]; exact h4 i (by omega)⟩, by omega, fun i hi => (key i hi).2⟩
end Go.Proofs.Qxb6605852a
