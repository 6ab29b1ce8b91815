import Derived.Test.Qxb6605818aFmtRows
import Derived.WalkKit
import Derived.WalkSpells
import Derived.WalkLawsBesides
import Derived.Deep.QuietTactic
import Derived.BigQuiet
import Derived.Below
import Derived.OwnWalk
import Derived.Deep.OwnRows
import Derived.KernelRfl
namespace Go.Proofs.Qxb6605818aFmt
open Go.RowKit
set_option linter.unusedVariables false

theorem cell_lt {w : World} {a : Addr} {v : Value} (h : w.cell? a = some v) : a.block < w.heap.size := by
  by_cases hb : a.block < w.heap.size
  · exact hb
  · exfalso
    have : w.heap[a.block]? = none := Array.getElem?_eq_none (by omega)
    simp [World.cell?, this] at h

/-- A slice that can be read: cell i of its first len holds f i. -/
def Sl (w : World) (a : Option Addr) (len : Nat) (f : Nat → Value) : Prop := ∀ i, i < len → ∃ x, a = some x ∧ w.cell? (x.add i) = some (f i)

theorem Sl.below {w w' : World} {a : Option Addr} {len : Nat} {f : Nat → Value} (h : Sl w a len f) (hb : Below w.heap.size w w') : Sl w' a len f := by
  intro i hi
  obtain ⟨x, h1, h2⟩ := h i hi
  exact ⟨x, h1, (hb.cell (cell_lt h2)).trans h2⟩
theorem Sl.congr {w : World} {a : Option Addr} {len : Nat} {f g : Nat → Value} (h : Sl w a len f) (e : ∀ i, i < len → f i = g i) : Sl w a len g := by
  intro i hi
  obtain ⟨x, h1, h2⟩ := h i hi
  exact ⟨x, h1, by rw [h2, e i hi]⟩
theorem Sl.row {w : World} {b n : Nat} {t : TypeId} {f : Nat → Value} (h : w.rowIs b t n f) : Sl w (some ⟨b, 0, none⟩) n f :=
  fun i hi => ⟨_, rfl, by rw [Addr.add_lit, Nat.zero_add]; exact h.cell hi⟩

theorem str_ne {a b : ByteArray} (h : ¬ a = b) : (a.toList == b.toList) = false := by
  rw [beq_eq_false_iff_ne]
  intro e
  rw [ByteArray.toList_eq, ByteArray.toList_eq] at e
  exact h (WideShapes.bytes_inj e)

theorem val_int {k : IntKind} {x y : Int} (h : x = y) : Value.int k x = .int k y := by rw [h]
theorem ret_bool {a b : Bool} (h : a = b) : Ending.returned (.bool a) = .returned (.bool b) := by rw [h]

def strV (s : Nat → ByteArray) : Nat → Value := fun i => .string (s i)
def intV (z : Nat → Int) : Nat → Value := fun i => .int .i64 (z i)

/-- Is x among the first n? -/
def inStr (s : Nat → ByteArray) (x : ByteArray) : Nat → Bool
  | 0 => false
  | n + 1 => inStr s x n || decide (s n = x)

theorem inStr_iff (s : Nat → ByteArray) (x : ByteArray) (n : Nat) : inStr s x n = true ↔ ∃ i, i < n ∧ s i = x := by
  induction n with
  | zero => simp [inStr]
  | succ n ih =>
    simp only [inStr, Bool.or_eq_true, ih, decide_eq_true_eq]
    constructor
    · rintro (⟨i, h1, h2⟩ | h)
      · exact ⟨i, by omega, h2⟩
      · exact ⟨n, by omega, h⟩
    · rintro ⟨i, h1, h2⟩
      by_cases e : i = n
      · subst e; exact .inr h2
      · exact .inl ⟨i, by omega, h2⟩

set_option maxHeartbeats 400000 in
theorem contains_any (a : Option Addr) (len cap : Nat) (s : Nat → ByteArray) (x : ByteArray) (w : World) (hl : len ≤ 2000000) (h : Sl w a len (strV s)) :
    Calls Tryf.prog 29 #[.slice a len cap, .string x] w fun e w' => e = .returned (.bool (inStr s x len)) ∧ w' = w := by
  have H : Hid (Sl w a len (strV s)) := h
  have hli : (len : Int) ≤ 2000000 := by omega
  clear h
  go_enter Tryf.func29, Tryf.ntmps29
  go_wp2
  go_loop [9] (fun i => ∃ k : Nat, k ≤ len ∧ i = .int .i64 k ∧ Hid (inStr s x k = false)) (fun i => len - (intOf i).toNat)
  case atStart => exact ⟨0, Nat.zero_le _, rfl, rfl⟩
  case round =>
    obtain ⟨k, hk, rfl, HN⟩ := hrel
    by_cases hlt : k < len
    · obtain ⟨y, hy, hc⟩ := H.out k hlt
      subst hy
      have hc' : w.cell? (y.add k) = some (.string (s k)) := hc
      have hlti : (k : Int) < (len : Int) := by omega
      clear hc
      obtain ⟨t, ht⟩ : ∃ t, s k = t := ⟨_, rfl⟩
      rw [ht] at hc'
      by_cases he : t = x
      · have HT : Hid (inStr s x len = true) := (inStr_iff s x len).2 ⟨k, hlt, ht.trans he⟩
        subst he
        clear ht
        go_wp2
        go_ret
        exact ⟨ret_bool HT.out.symm, rfl⟩
      · have HT : Hid (inStr s x (k + 1) = false) := by
          show (inStr s x k || decide (s k = x)) = false
          rw [HN.out, ht]
          simp [he]
        have h1 := str_ne he
        clear ht
        go_wp2
        refine ⟨⟨k + 1, by omega, by go_num, HT⟩, ?_⟩
        simp [intOf]; omega
    · obtain rfl : k = len := by omega
      go_wp2
      go_ret
      exact ⟨ret_bool HN.out.symm, rfl⟩
end Go.Proofs.Qxb6605818aFmt
