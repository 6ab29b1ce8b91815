/-
  DERIVED: THE SHELF's CONTRACTS AT THIS DUMP, IN PLAIN WORDS (tools/lay-plain.mjs out of 'TryShelf.lean', which tools/lay-shelf.mjs wrote): THE SAME DECLARATIONS UNDER THE SAME NAMES: 'import', 'namespace', 'open', 'def', 'theorem' AND NOTHING ELSE: no command of the shelf's: FOR A HAND-IN. Each laying: the table of numbers ('.._ren') and one theorem, a field a fact of the dump's own or the kernel's comparison; each contract: ONE APPLICATION.
-/
import Derived.Shelf.Small.Bits
import Derived.Shelf.Strconv.Itoa0
import Derived.Ground.SlgnProg
import Derived.Shelf.SlicesE.Index
import Derived.Shelf.SlicesE.Delete
import Derived.Ground.SlgfProg
import Derived.Shelf.SlicesE.IndexFunc
import Derived.Test.Qxb6605852aProg
namespace Go.Proofs
open Go.Shelf
def Try.lays128_ren : Go.Shelf.Ren := ⟨fun | 128 => 41 | n => n, fun | 51 => 24 | 3 => 3 | 4 => 4 | 46 => 54 | 5 => 5 | 9 => 9 | n => n, fun | n => n⟩
theorem Try.lays128 : Go.Proofs.Lays.n128 Try.prog Try.lays128_ren := {
  mixed := by kernel_rfl
  f128 := Try.func41.trans (congrArg some (by kernel_rfl))
  t3 := Try.underlying3
  a3 := Try.isAgg3
  z3 := Try.sizeOf3
  v3 := Try.zeroValue3
  t4 := Try.underlying4
  a4 := Try.isAgg4
  z4 := Try.sizeOf4
  v4 := Try.zeroValue4
  t5 := Try.underlying5
  a5 := Try.isAgg5
  z5 := Try.sizeOf5
  v5 := Try.zeroValue5
  t9 := Try.underlying9
  a9 := Try.isAgg9
  z9 := Try.sizeOf9
  v9 := Try.zeroValue9
  t46 := Try.underlying54
  a46 := Try.isAgg54
  z46 := Try.sizeOf54
  v46 := Try.zeroValue54
  t51 := Try.underlying24
  a51 := Try.isAgg24
  z51 := Try.sizeOf24
  v51 := Try.zeroValue24 }
/-- bits.Len32: "Len32 returns the minimum number of bits required to represent x; the result is 0 for x == 0.": IT RETURNS 'Lib.bitLen x'; the world is as it was. ('h0', 'h1': x is a uint32.) (LAID: no walk: one application.) -/
theorem Try.bits_Len32 (x : Int) (w : World) (h0 : 0 ≤ x) (h1 : x ≤ 4294967295) :
    Calls Try.prog 41 #[.int .u32 x] w fun e w' => e = .returned (.int .i64 (Lib.bitLen x.toNat)) ∧ w' = w := Any.bits_Len32 Try.lays128 x w h0 h1
def Try.lays125_ren : Go.Shelf.Ren := ⟨fun | 125 => 40 | 128 => 41 | 129 => 42 | n => n, fun | 46 => 54 | 3 => 3 | 51 => 24 | 53 => 42 | 4 => 4 | 5 => 5 | 9 => 9 | n => n, fun | n => n⟩
theorem Try.lays125 : Go.Proofs.Lays.n125 Try.prog Try.lays125_ren := {
  mixed := by kernel_rfl
  f125 := Try.func40.trans (congrArg some (by kernel_rfl))
  f128 := Try.func41.trans (congrArg some (by kernel_rfl))
  f129 := Try.func42.trans (congrArg some (by kernel_rfl))
  t3 := Try.underlying3
  a3 := Try.isAgg3
  z3 := Try.sizeOf3
  v3 := Try.zeroValue3
  t4 := Try.underlying4
  a4 := Try.isAgg4
  z4 := Try.sizeOf4
  v4 := Try.zeroValue4
  t5 := Try.underlying5
  a5 := Try.isAgg5
  z5 := Try.sizeOf5
  v5 := Try.zeroValue5
  t9 := Try.underlying9
  a9 := Try.isAgg9
  z9 := Try.sizeOf9
  v9 := Try.zeroValue9
  t46 := Try.underlying54
  a46 := Try.isAgg54
  z46 := Try.sizeOf54
  v46 := Try.zeroValue54
  t51 := Try.underlying24
  a51 := Try.isAgg24
  z51 := Try.sizeOf24
  v51 := Try.zeroValue24
  t53 := Try.underlying42
  a53 := Try.isAgg42
  z53 := Try.sizeOf42
  v53 := Try.zeroValue42 }
/-- bits.Len: "Len returns the minimum number of bits required to represent x; the result is 0 for x == 0.": IT RETURNS 'Lib.bitLen x'; the world is as it was. (A uint has 64 bits in the model.) ITS CALLEE bits.Len64 IS MET BY ITS OWN CONTRACT OFF THE SHELF (lay that first). (LAID: no walk: one application.) -/
theorem Try.bits_Len (x : Int) (w : World) (h0 : 0 ≤ x) (h1 : x ≤ 18446744073709551615) :
    Calls Try.prog 40 #[.int .u64 x] w fun e w' => e = .returned (.int .i64 (Lib.bitLen x.toNat)) ∧ w' = w := Any.bits_Len Try.lays125 x w h0 h1
def Try.lays129_ren : Go.Shelf.Ren := ⟨fun | 129 => 42 | n => n, fun | 53 => 42 | 3 => 3 | 4 => 4 | 46 => 54 | 5 => 5 | 9 => 9 | n => n, fun | n => n⟩
theorem Try.lays129 : Go.Proofs.Lays.n129 Try.prog Try.lays129_ren := {
  mixed := by kernel_rfl
  f129 := Try.func42.trans (congrArg some (by kernel_rfl))
  t3 := Try.underlying3
  a3 := Try.isAgg3
  z3 := Try.sizeOf3
  v3 := Try.zeroValue3
  t4 := Try.underlying4
  a4 := Try.isAgg4
  z4 := Try.sizeOf4
  v4 := Try.zeroValue4
  t5 := Try.underlying5
  a5 := Try.isAgg5
  z5 := Try.sizeOf5
  v5 := Try.zeroValue5
  t9 := Try.underlying9
  a9 := Try.isAgg9
  z9 := Try.sizeOf9
  v9 := Try.zeroValue9
  t46 := Try.underlying54
  a46 := Try.isAgg54
  z46 := Try.sizeOf54
  v46 := Try.zeroValue54
  t53 := Try.underlying42
  a53 := Try.isAgg42
  z53 := Try.sizeOf42
  v53 := Try.zeroValue42 }
/-- bits.Len64: "Len64 returns the minimum number of bits required to represent x; the result is 0 for x == 0.": IT RETURNS 'Lib.bitLen x'; the world is as it was. ('h0', 'h1': x is a uint64.) (LAID: no walk: one application.) -/
theorem Try.bits_Len64 (x : Int) (w : World) (h0 : 0 ≤ x) (h1 : x ≤ 18446744073709551615) :
    Calls Try.prog 42 #[.int .u64 x] w fun e w' => e = .returned (.int .i64 (Lib.bitLen x.toNat)) ∧ w' = w := Any.bits_Len64 Try.lays129 x w h0 h1
def Try.laysSlE29_f30_ren : Go.Shelf.Ren := ⟨fun | 29 => 30 | n => n, fun | 22 => 38 | 23 => 42 | 3 => 3 | 0 => 0 | 4 => 4 | n => n, fun | n => n⟩
theorem Try.laysSlE29_f30 : Go.Proofs.SlLaysE.n29 Try.prog Try.laysSlE29_f30_ren := {
  mixed := by kernel_rfl
  f29 := ⟨Try.f30.name, by decide, Try.func30.trans (congrArg some (by kernel_rfl))⟩
  t0 := Try.underlying0
  a0 := Try.isAgg0
  z0 := Try.sizeOf0
  v0 := Try.zeroValue0
  t3 := Try.underlying3
  a3 := Try.isAgg3
  z3 := Try.sizeOf3
  v3 := Try.zeroValue3
  t4 := Try.underlying4
  a4 := Try.isAgg4
  z4 := Try.sizeOf4
  v4 := Try.zeroValue4
  t22 := Try.underlying38
  a22 := Try.isAgg38
  z22 := Try.sizeOf38
  v22 := Try.zeroValue38
  a23 := Try.isAgg42
  z23 := Try.sizeOf42 }
open Go.Lib in
/-- slices.Index: "Index returns the index of the first occurrence of v in s, or -1 if not present.": IT RETURNS 'Lib.idxBy eq (the elements) v'; the world is as it was. 'zs': what the cells behind the slice's address hold (its spare capacity too, if you have it); 'zs.take n': its elements. (LAID AT THE INSTANCE 'slices.Index[[]uint64,uint64]': no walk: one application.) -/
theorem Try.slices_Index {α : Type} [Inhabited α] (enc : α → Value) (eq : α → α → Bool) (heq : EqlAt Try.prog 42 enc eq) (b off n c : Nat) (zs : List α) (x : α) (w : World) (hz : n ≤ zs.length) (hbig : n ≤ 9223372036854775807) (hc : ∀ j, j < zs.length → w.cell? ⟨b, off + j, none⟩ = some (enc zs[j]!)) :
    Calls Try.prog 30 #[.slice (some ⟨b, off, none⟩) n c, enc x] w fun e w' => e = .returned (.int .i64 (Lib.idxBy eq (zs.take n) x)) ∧ w' = w := AnyE.slices_Index Try.laysSlE29_f30 enc eq heq b off n c zs x w hz hbig hc
open Go.Lib in
/-- The same at a slice of length 0, a nil one too: no cell is known, none is asked for; nothing is asked of '=='. (LAID AT THE INSTANCE 'slices.Index[[]uint64,uint64]': no walk: one application.) -/
theorem Try.slices_Index_empty {α : Type} [Inhabited α] (a : Option Addr) (c : Nat) (xv : Value) (w : World) :
    Calls Try.prog 30 #[.slice a 0 c, xv] w fun e w' => e = .returned (.int .i64 (-1)) ∧ w' = w := AnyE.slices_Index_empty Try.laysSlE29_f30 a c xv w
def Try.laysSlE45_f29_ren : Go.Shelf.Ren := ⟨fun | 45 => 29 | n => n, fun | 22 => 38 | 23 => 42 | 3 => 3 | 4 => 4 | 0 => 0 | n => n, fun | n => n⟩
theorem Try.laysSlE45_f29 : Go.Proofs.SlLaysE.n45 Try.prog Try.laysSlE45_f29_ren := {
  mixed := by kernel_rfl
  f45 := ⟨Try.f29.name, by decide, Try.func29.trans (congrArg some (by kernel_rfl))⟩
  t0 := Try.underlying0
  a0 := Try.isAgg0
  z0 := Try.sizeOf0
  v0 := Try.zeroValue0
  t3 := Try.underlying3
  a3 := Try.isAgg3
  z3 := Try.sizeOf3
  v3 := Try.zeroValue3
  t4 := Try.underlying4
  a4 := Try.isAgg4
  z4 := Try.sizeOf4
  v4 := Try.zeroValue4
  t22 := Try.underlying38
  a22 := Try.isAgg38
  z22 := Try.sizeOf38
  v22 := Try.zeroValue38
  a23 := Try.isAgg42
  z23 := Try.sizeOf42 }
open Go.RowKit Go.Lib Go.Sort in
/-- slices.Delete: "Delete modifies s in place by removing the elements s[i:j], and returns the modified slice. .. Delete zeroes the elements s[len(s)-(j-i):len(s)].": FOR i ≤ j ≤ len(s) IT RETURNS THE SLICE CUT TO len(s) - (j - i) ELEMENTS; ITS CELLS HOLD what stood ahead of i, what stood from j on, then j - i zero values ('zr': the element whose 'enc' is the type's zero value). (LAID AT THE INSTANCE 'slices.Delete[[]uint64,uint64]': no walk: one application.) -/
theorem Try.slices_Delete {α : Type} [Inhabited α] (enc : α → Value) (h1 : OneCell enc) (zr : α) (v23 : ∀ w, (zeroValue 42).run Try.prog w = .ok (enc zr) w) (i0 : TypeInfo) (hi0 : Try.prog.info? 42 = some i0) (hz1 : i0.size = 1) (blk off cap i j : Nat) (d : Array α) (w : World) (hH : Holds enc w blk off d) (hcap : d.size ≤ cap) (hm : cap ≤ 9223372036854775807) (hij : i ≤ j) (hj : j ≤ d.size) :
    Calls Try.prog 29 #[.slice (some ⟨blk, off, none⟩) d.size cap, .int .i64 i, .int .i64 j] w fun e w' => e = .returned (.slice (some ⟨blk, off, none⟩) (d.size - (j - i)) cap) ∧ ∃ q, w' = putRow enc (Sort.ahead w q) blk off (d.toList.take i ++ d.toList.drop j ++ List.replicate (j - i) zr).toArray := AnyE.slices_Delete Try.laysSlE45_f29 enc h1 zr v23 i0 hi0 hz1 blk off cap i j d w hH hcap hm hij hj
def Try.laysSlH6_f36_ren : Go.Shelf.Ren := ⟨fun | 6 => 36 | n => n, fun | 22 => 38 | 23 => 42 | 25 => 61 | 3 => 3 | 0 => 0 | 4 => 4 | n => n, fun | n => n⟩
theorem Try.laysSlH6_f36 : Go.Proofs.SlLaysH.n6 Try.prog Try.laysSlH6_f36_ren := {
  mixed := by kernel_rfl
  f6 := ⟨Try.f36.name, by decide, Try.func36.trans (congrArg some (by kernel_rfl))⟩
  t0 := Try.underlying0
  a0 := Try.isAgg0
  z0 := Try.sizeOf0
  v0 := Try.zeroValue0
  t3 := Try.underlying3
  a3 := Try.isAgg3
  z3 := Try.sizeOf3
  v3 := Try.zeroValue3
  t4 := Try.underlying4
  a4 := Try.isAgg4
  z4 := Try.sizeOf4
  v4 := Try.zeroValue4
  t22 := Try.underlying38
  a22 := Try.isAgg38
  z22 := Try.sizeOf38
  v22 := Try.zeroValue38
  a23 := Try.isAgg42
  z23 := Try.sizeOf42
  t25 := Try.underlying61
  a25 := Try.isAgg61
  z25 := Try.sizeOf61
  v25 := Try.zeroValue61 }
open Go.RowKit Go.Lib in
/-- slices.IndexFunc: "IndexFunc returns the first index i satisfying f(s[i]), or -1 if none do." (LAID AT THE INSTANCE 'slices.IndexFunc[[]uint64,uint64]': no walk: one application.) -/
theorem Try.slices_IndexFunc {α : Type} [Inhabited α] (enc : α → Value) (p : α → Bool) (g : Nat) (lb : Array Value) (eg : ∀ args w, (callFunc g args).run Try.prog w = .ok (.enter g args) w) (b off n c : Nat) (zs : List α) (w : World) (hp : PredAt Try.prog g lb enc p w) (hz : n ≤ zs.length) (hbig : n ≤ 9223372036854775807) (hc : ∀ j, j < zs.length → w.cell? ⟨b, off + j, none⟩ = some (enc zs[j]!)) :
    Calls Try.prog 36 #[.slice (some ⟨b, off, none⟩) n c, .func (.func g) #[] lb] w fun e w' => e = .returned (.int .i64 (Lib.idxBy (fun _ y => p y) (zs.take n) default)) ∧ ∃ q, w' = w.drewN q := AnyE.slices_IndexFunc Try.laysSlH6_f36 enc p g lb eg b off n c zs w hp hz hbig hc
open Go.RowKit Go.Lib in
/-- The same at a slice of length 0, a nil one too: the predicate is not called: nothing is asked of it. (LAID AT THE INSTANCE 'slices.IndexFunc[[]uint64,uint64]': no walk: one application.) -/
theorem Try.slices_IndexFunc_empty {α : Type} [Inhabited α] (a : Option Addr) (c : Nat) (fv : Value) (w : World) :
    Calls Try.prog 36 #[.slice a 0 c, fv] w fun e w' => e = .returned (.int .i64 (-1)) ∧ w' = w := AnyE.slices_IndexFunc_empty Try.laysSlH6_f36 a c fv w
def Try.laysSlH8_f27_ren : Go.Shelf.Ren := ⟨fun | 8 => 27 | 6 => 36 | n => n, fun | 22 => 38 | 23 => 42 | 25 => 61 | 4 => 4 | 3 => 3 | 0 => 0 | n => n, fun | n => n⟩
theorem Try.laysSlH8_f27 : Go.Proofs.SlLaysH.n8 Try.prog Try.laysSlH8_f27_ren := {
  mixed := by kernel_rfl
  f6 := ⟨Try.f36.name, by decide, Try.func36.trans (congrArg some (by kernel_rfl))⟩
  f8 := ⟨Try.f27.name, by decide, Try.func27.trans (congrArg some (by kernel_rfl))⟩
  t0 := Try.underlying0
  a0 := Try.isAgg0
  z0 := Try.sizeOf0
  v0 := Try.zeroValue0
  t3 := Try.underlying3
  a3 := Try.isAgg3
  z3 := Try.sizeOf3
  v3 := Try.zeroValue3
  t4 := Try.underlying4
  a4 := Try.isAgg4
  z4 := Try.sizeOf4
  v4 := Try.zeroValue4
  t22 := Try.underlying38
  a22 := Try.isAgg38
  z22 := Try.sizeOf38
  v22 := Try.zeroValue38
  a23 := Try.isAgg42
  z23 := Try.sizeOf42
  t25 := Try.underlying61
  a25 := Try.isAgg61
  z25 := Try.sizeOf61
  v25 := Try.zeroValue61 }
open Go.RowKit Go.Lib in
/-- slices.ContainsFunc: "ContainsFunc reports whether at least one element e of s satisfies f(e).": ITS CALLEE slices.IndexFunc IS MET BY ITS OWN CONTRACT. (LAID AT THE INSTANCE 'slices.ContainsFunc[[]uint64,uint64]': no walk: one application.) -/
theorem Try.slices_ContainsFunc {α : Type} [Inhabited α] (enc : α → Value) (p : α → Bool) (g : Nat) (lb : Array Value) (eg : ∀ args w, (callFunc g args).run Try.prog w = .ok (.enter g args) w) (b off n c : Nat) (zs : List α) (w : World) (hp : PredAt Try.prog g lb enc p w) (hz : n ≤ zs.length) (hbig : n ≤ 9223372036854775807) (hc : ∀ j, j < zs.length → w.cell? ⟨b, off + j, none⟩ = some (enc zs[j]!)) :
    Calls Try.prog 27 #[.slice (some ⟨b, off, none⟩) n c, .func (.func g) #[] lb] w fun e w' => e = .returned (.bool ((zs.take n).any p)) ∧ ∃ q, w' = w.drewN q := AnyE.slices_ContainsFunc Try.laysSlH8_f27 enc p g lb eg b off n c zs w hp hz hbig hc
open Go.RowKit Go.Lib in
/-- The same at a slice of length 0, a nil one too. (LAID AT THE INSTANCE 'slices.ContainsFunc[[]uint64,uint64]': no walk: one application.) -/
theorem Try.slices_ContainsFunc_empty {α : Type} [Inhabited α] (a : Option Addr) (c : Nat) (fv : Value) (w : World) :
    Calls Try.prog 27 #[.slice a 0 c, fv] w fun e w' => e = .returned (.bool false) ∧ w' = w := AnyE.slices_ContainsFunc_empty Try.laysSlH8_f27 a c fv w
end Go.Proofs
