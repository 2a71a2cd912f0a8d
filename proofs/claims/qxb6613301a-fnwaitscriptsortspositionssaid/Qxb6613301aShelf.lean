/-
  DERIVED: THE SHELF's CONTRACTS AT THIS DUMP, IN PLAIN WORDS (tools/lay-plain.mjs out of 'TryShelf.lean', which tools/lay-shelf.mjs wrote): THE SAME DECLARATIONS UNDER THE SAME NAMES: 'import', 'namespace', 'open', 'def', 'theorem' AND NOTHING ELSE: no command of the shelf's: FOR A HAND-IN. Each laying: the table of numbers ('.._ren') and one theorem, a field a fact of the dump's own or the kernel's comparison; each contract: ONE APPLICATION.
-/
import Derived.Shelf.Slices.SearchI
import Derived.Shelf.Slices.Empties
import Derived.Shelf.Spec.SlicesInsertGrow
import Derived.Test.Qxb6613301aProg
namespace Go.Proofs
open Go.Shelf
def Try.laysNm237_ren : Go.Shelf.Ren := ⟨fun | 37 => 51 | n => n, fun | 3 => 3 | 4 => 4 | n => n, fun | n => n⟩
theorem Try.laysNm237 : Go.Proofs.Lays2.n37 Try.prog Try.laysNm237_ren := {
  mixed := by kernel_rfl
  f37 := Try.func51.trans (congrArg some (by kernel_rfl))
  t3 := Try.underlying3
  a3 := Try.isAgg3
  z3 := Try.sizeOf3
  v3 := Try.zeroValue3
  t4 := Try.underlying4
  a4 := Try.isAgg4
  z4 := Try.sizeOf4
  v4 := Try.zeroValue4 }
open Go.RowKit Go.Lib in
/-- cmp.isNaN[int]: 'x != x': false. (LAID: no walk: one application.) -/
theorem Try.cmp_isNaN_int2 (x : Int) (w : World) :
    Calls Try.prog 51 #[.int .i64 x] w fun e w' => e = .returned (.bool false) ∧ w' = w := Any.cmp_isNaN_int2 Try.laysNm237 x w
def Try.laysNm232_ren : Go.Shelf.Ren := ⟨fun | 32 => 44 | n => n, fun | 3 => 3 | 4 => 4 | n => n, fun | n => n⟩
theorem Try.laysNm232 : Go.Proofs.Lays2.n32 Try.prog Try.laysNm232_ren := {
  mixed := by kernel_rfl
  f32 := Try.func44.trans (congrArg some (by kernel_rfl))
  t3 := Try.underlying3
  a3 := Try.isAgg3
  z3 := Try.sizeOf3
  v3 := Try.zeroValue3
  t4 := Try.underlying4
  a4 := Try.isAgg4
  z4 := Try.sizeOf4
  v4 := Try.zeroValue4 }
open Go.RowKit Go.Lib in
/-- slices.isNaN[int]: 'x != x': false. (LAID: no walk: one application.) -/
theorem Try.slices_isNaN_int2 (x : Int) (w : World) :
    Calls Try.prog 44 #[.int .i64 x] w fun e w' => e = .returned (.bool false) ∧ w' = w := Any.slices_isNaN_int2 Try.laysNm232 x w
def Try.laysNm231_ren : Go.Shelf.Ren := ⟨fun | 31 => 43 | 37 => 51 | n => n, fun | 3 => 3 | 4 => 4 | n => n, fun | n => n⟩
theorem Try.laysNm231 : Go.Proofs.Lays2.n31 Try.prog Try.laysNm231_ren := {
  mixed := by kernel_rfl
  f31 := Try.func43.trans (congrArg some (by kernel_rfl))
  f37 := Try.func51.trans (congrArg some (by kernel_rfl))
  t3 := Try.underlying3
  a3 := Try.isAgg3
  z3 := Try.sizeOf3
  v3 := Try.zeroValue3
  t4 := Try.underlying4
  a4 := Try.isAgg4
  z4 := Try.sizeOf4
  v4 := Try.zeroValue4 }
open Go.RowKit Go.Lib in
/-- cmp.Less[int]: 'Less reports whether x is less than y.': 'x < y'; the world is as it was. (LAID: no walk: one application.) -/
theorem Try.cmp_Less_int2 (x y : Int) (w : World) :
    Calls Try.prog 43 #[.int .i64 x, .int .i64 y] w fun e w' => e = .returned (.bool (decide (x < y))) ∧ w' = w := Any.cmp_Less_int2 Try.laysNm231 x y w
def Try.laysNm225_ren : Go.Shelf.Ren := ⟨fun | 25 => 36 | 31 => 43 | 32 => 44 | 37 => 51 | n => n, fun | 22 => 22 | 3 => 3 | 4 => 4 | 40 => 95 | 0 => 0 | n => n, fun | n => n⟩
theorem Try.laysNm225 : Go.Proofs.Lays2.n25 Try.prog Try.laysNm225_ren := {
  mixed := by kernel_rfl
  f25 := Try.func36.trans (congrArg some (by kernel_rfl))
  f31 := Try.func43.trans (congrArg some (by kernel_rfl))
  f32 := Try.func44.trans (congrArg some (by kernel_rfl))
  f37 := Try.func51.trans (congrArg some (by kernel_rfl))
  t0 := Try.underlying0
  a0 := Try.isAgg0
  z0 := Try.sizeOf0
  v0 := Try.zeroValue0
  t3 := Try.underlying3
  a3 := Try.isAgg3
  z3 := Try.sizeOf3
  v3 := Try.zeroValue3
  t4 := Try.underlying4
  a4 := Try.isAgg4
  z4 := Try.sizeOf4
  v4 := Try.zeroValue4
  t22 := Try.underlying22
  a22 := Try.isAgg22
  z22 := Try.sizeOf22
  v22 := Try.zeroValue22
  t40 := Try.underlying95
  a40 := Try.isAgg95
  z40 := Try.sizeOf95
  v40 := Try.zeroValue95 }
open Go.RowKit Go.Lib in
/-- slices.BinarySearch at []int: 'BinarySearch searches for target in a sorted slice and returns the earliest position where target is found, or the position where target would appear in the sort order; it also returns a bool saying whether the target is really found in the slice. The slice must be sorted in increasing order.': OF A SORTED SLICE IT RETURNS how many elements are less than the target, and whether the target is among the elements; the world is as it was but for the count of draws. 'zs': what the cells behind the slice's address hold; 'zs.take n': its elements. (Of a slice that is not sorted: no contract here.) (LAID: no walk: one application.) -/
theorem Try.slices_BinarySearch_int (b off n c : Nat) (zs : List Int) (x : Int) (w : World) (hz : n ≤ zs.length) (hbig : n < 4611686018427387904) (hc : ∀ j, j < zs.length → w.cell? ⟨b, off + j, none⟩ = some (.int .i64 (zs.getD j 0))) (hs : (zs.take n).Pairwise (· ≤ ·)) :
    Calls Try.prog 36 #[.slice (some ⟨b, off, none⟩) n c, .int .i64 x] w fun e w' => e = .returned (.tuple #[.int .i64 ((zs.take n).countP (· < x) : Nat), .bool ((zs.take n).contains x)]) ∧ ∃ q, w' = w.drewN q := Any.slices_BinarySearch_int Try.laysNm225 b off n c zs x w hz hbig hc hs
open Go.RowKit Go.Lib in
/-- slices.BinarySearch at []int of no element: position 0, not found; the world is as it was. (LAID: no walk: one application.) -/
theorem Try.slices_BinarySearch_int_empty (a : Option Addr) (c : Nat) (x : Int) (w : World) :
    Calls Try.prog 36 #[.slice a 0 c, .int .i64 x] w fun e w' => e = .returned (.tuple #[.int .i64 0, .bool false]) ∧ w' = w := Any.slices_BinarySearch_int_empty Try.laysNm225 a c x w
def Try.laysNm221_ren : Go.Shelf.Ren := ⟨fun | 21 => 37 | 27 => 45 | 28 => 46 | 35 => 52 | 39 => 56 | n => n, fun | 22 => 22 | 3 => 3 | 4 => 4 | 0 => 0 | n => n, fun | n => n⟩
theorem Try.laysNm221 : Go.Proofs.Lays2.n21 Try.prog Try.laysNm221_ren := {
  mixed := by kernel_rfl
  f21 := Try.func37.trans (congrArg some (by kernel_rfl))
  f27 := Try.func45.trans (congrArg some (by kernel_rfl))
  f28 := Try.func46.trans (congrArg some (by kernel_rfl))
  f35 := Try.func52.trans (congrArg some (by kernel_rfl))
  f39 := Try.func56.trans (congrArg some (by kernel_rfl))
  t0 := Try.underlying0
  a0 := Try.isAgg0
  z0 := Try.sizeOf0
  v0 := Try.zeroValue0
  t3 := Try.underlying3
  a3 := Try.isAgg3
  z3 := Try.sizeOf3
  v3 := Try.zeroValue3
  t4 := Try.underlying4
  a4 := Try.isAgg4
  z4 := Try.sizeOf4
  v4 := Try.zeroValue4
  t22 := Try.underlying22
  a22 := Try.isAgg22
  z22 := Try.sizeOf22
  v22 := Try.zeroValue22
  i3 := by kernel_rfl }

/-! ### slices.Insert at []int, the four roads, at this dump's numbers (one value, laid in a block of its own). -/
open Go.RowKit Go.Lib in
theorem Try.slices_Insert_int_shift (b off n c i vb voff m vc : Nat) (cs vs : List Value) (w : World) (hi : i < n) (hm : 0 < m) (hroom : n + m ≤ c) (hc63 : c ≤ 9223372036854775807) (hvb : vb ≠ b)
    (hcl : cs.length = n) (hvl : vs.length = m)
    (hcs : ∀ j v, cs[j]? = some v → w.cell? ⟨b, off + j, none⟩ = some v) (hsp : ∀ j, j < n + m → (w.cell? ⟨b, off + j, none⟩).isSome = true) (hfz : ∀ j, j < n + m → w.frozen? ⟨b, off + j, none⟩ = false)
    (hvs : ∀ j v, vs[j]? = some v → w.cell? ⟨vb, voff + j, none⟩ = some v) (h1c : ∀ v ∈ cs, v.oneCell' = true) (h1v : ∀ v ∈ vs, v.oneCell' = true)
    (tA tB : TypeId) (kA kB : Nat) (hsa : w.shape? vb = some (tA, kA)) (hsb : w.shape? b = some (tB, kB)) (hkB : kB ≠ 0) (hfa : w.frozen? ⟨vb, voff, none⟩ = false) (hfe : w.frozen? ⟨vb, kA, none⟩ = false) :
    Calls Try.prog 37 #[.slice (some ⟨b, off, none⟩) n c, .int .i64 i, .slice (some ⟨vb, voff, none⟩) m vc] w fun e w' =>
      e = .returned (.slice (some ⟨b, off, none⟩) (n + m) c) ∧ w' = (w.drew.setCells b (off + (i + m)) (cs.drop i)).setCells b (off + i) vs :=
  Any2.slices_Insert_int_shift Try.laysNm221 b off n c i vb voff m vc cs vs w hi hm hroom hc63 hvb hcl hvl hcs hsp hfz hvs h1c h1v tA tB kA kB hsa hsb hkB hfa hfe
open Go.RowKit Go.Lib in
theorem Try.slices_Insert_int_end_room (b off n c vb voff m vc : Nat) (vs : List Value) (w : World) (hm : 0 < m) (hroom : n + m ≤ c) (hc63 : c ≤ 9223372036854775807)
    (hvl : vs.length = m) (hsp : ∀ j, j < m → (w.cell? ⟨b, off + n + j, none⟩).isSome = true) (hfz : ∀ j, j < m → w.frozen? ⟨b, off + n + j, none⟩ = false)
    (hvs : ∀ j v, vs[j]? = some v → w.cell? ⟨vb, voff + j, none⟩ = some v) (h1v : ∀ v ∈ vs, v.oneCell' = true) :
    Calls Try.prog 37 #[.slice (some ⟨b, off, none⟩) n c, .int .i64 n, .slice (some ⟨vb, voff, none⟩) m vc] w fun e w' =>
      e = .returned (.slice (some ⟨b, off, none⟩) (n + m) c) ∧ w' = w.setCells b (off + n) vs :=
  Any2.slices_Insert_int_end_room Try.laysNm221 b off n c vb voff m vc vs w hm hroom hc63 hvl hsp hfz hvs h1v
open Go.RowKit Go.Lib in
theorem Try.slices_Insert_int_end_grow (base : Option Addr) (n c vb voff m vc : Nat) (cs vs : List Value) (w : World) (hm : 0 < m) (hnc : n ≤ c) (hroom : c < n + m) (hbig : (n + m) * 8 ≤ 140737488355328)
    (hcl : cs.length = n) (hvl : vs.length = m) (hnil : base = none → n = 0)
    (hcs : ∀ a, base = some a → ∀ j v, cs[j]? = some v → w.cell? (a.add j) = some v)
    (hvs : ∀ j v, vs[j]? = some v → w.cell? ⟨vb, voff + j, none⟩ = some v) (h1v : ∀ v ∈ vs, v.oneCell' = true) :
    Calls Try.prog 37 #[.slice base n c, .int .i64 n, .slice (some ⟨vb, voff, none⟩) m vc] w fun e w' =>
      e = .returned (.slice (some ⟨w.heap.size, 0, none⟩) (n + m) (grownCap w (n + m) c 3)) ∧
      w' = w.drew.alloc (.cells ((cs ++ vs).toArray ++ Builtin.zeroCells (Value.int .i64 0).cells (grownCap w (n + m) c 3 - (n + m))) 3) :=
  Any2.slices_Insert_int_end_grow Try.laysNm221 base n c vb voff m vc cs vs w hm hnc hroom hbig hcl hvl hnil hcs hvs h1v
open Go.RowKit Go.Lib in
theorem Try.slices_Insert_int_grow (b off n c i vb voff m vc : Nat) (cs vs : List Value) (w : World) (hi : i < n) (hm : 0 < m) (hnc : n ≤ c) (hroom : c < n + m) (hbig : (n + m) * 8 ≤ 140737488355328)
    (hcl : cs.length = n) (hvl : vs.length = m)
    (hcs : ∀ j v, cs[j]? = some v → w.cell? ⟨b, off + j, none⟩ = some v)
    (hvs : ∀ j v, vs[j]? = some v → w.cell? ⟨vb, voff + j, none⟩ = some v) (h1c : ∀ v ∈ cs, v.oneCell' = true) (h1v : ∀ v ∈ vs, v.oneCell' = true) :
    Calls Try.prog 37 #[.slice (some ⟨b, off, none⟩) n c, .int .i64 i, .slice (some ⟨vb, voff, none⟩) m vc] w fun e w' =>
      e = .returned (.slice (some ⟨w.heap.size, 0, none⟩) (n + m) (grownCap w (n + m) c 3)) ∧
      w' = (((w.alloc (.cells ((cs.take i).toArray ++ Builtin.zeroCells (Value.int .i64 0).cells (n + m - i) ++ Builtin.zeroCells (Value.int .i64 0).cells (grownCap w (n + m) c 3 - (n + m))) 3)).drew.setCells w.heap.size i vs).drew).setCells w.heap.size (i + m) (cs.drop i) :=
  Any2.slices_Insert_int_grow Try.laysNm221 b off n c i vb voff m vc cs vs w hi hm hnc hroom hbig hcl hvl hcs hvs h1c h1v
end Go.Proofs
