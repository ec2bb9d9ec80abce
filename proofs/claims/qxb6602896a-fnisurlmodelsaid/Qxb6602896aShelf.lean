/-
  Contracts of Go's library that this seat's roads call, laid at the given program as plain applications of the kit's shelf (after lay-shelf.mjs and lay-plain.mjs).
-/
import Derived.Shelf.Small.Utf8
import Derived.Shelf.Small.Strs
import Derived.Shelf.Strings.Runes
import Derived.Shelf.Strings.IndexAny
import Derived.Shelf.Strings.IndexAnyAll
import Derived.Test.Qxb6602896aProg
namespace Go.Proofs
open Go.Shelf
def Try.lays119_ren : Go.Shelf.Ren := ⟨fun | 119 => 53 | n => n, fun | 21 => 21 | 4 => 4 | n => n, fun | n => n⟩
theorem Try.lays119 : Go.Proofs.Lays.n119 Try.prog Try.lays119_ren := {
  mixed := by kernel_rfl
  f119 := Try.func53.trans (congrArg some (by kernel_rfl))
  t4 := Try.underlying4
  a4 := Try.isAgg4
  z4 := Try.sizeOf4
  v4 := Try.zeroValue4
  t21 := Try.underlying21
  a21 := Try.isAgg21
  z21 := Try.sizeOf21
  v21 := Try.zeroValue21 }
def Try.lays152_ren : Go.Shelf.Ren := ⟨fun | 152 => 46 | 137 => 42 | 119 => 53 | 224 => 54 | 225 => 55 | 217 => 50 | 266 => 56 | n => n, fun | 9 => 9 | 21 => 21 | 3 => 3 | 4 => 4 | 5 => 5 | 0 => 0 | 46 => 47 | n => n, fun | n => n⟩
theorem Try.lays152 : Go.Proofs.Lays.n152 Try.prog Try.lays152_ren := {
  mixed := by kernel_rfl
  f119 := Try.func53.trans (congrArg some (by kernel_rfl))
  f137 := Try.func42.trans (congrArg some (by kernel_rfl))
  f152 := Try.func46.trans (congrArg some (by kernel_rfl))
  f217 := Try.func50.trans (congrArg some (by kernel_rfl))
  f224 := Try.func54.trans (congrArg some (by kernel_rfl))
  f225 := Try.func55.trans (congrArg some (by kernel_rfl))
  f266 := Try.func56.trans (congrArg some (by kernel_rfl))
  t0 := Try.underlying0
  a0 := Try.isAgg0
  z0 := Try.sizeOf0
  v0 := Try.zeroValue0
  t3 := Try.underlying3
  a3 := Try.isAgg3
  z3 := Try.sizeOf3
  v3 := Try.zeroValue3
  t4 := Try.underlying4
  a4 := Try.isAgg4
  z4 := Try.sizeOf4
  v4 := Try.zeroValue4
  t5 := Try.underlying5
  a5 := Try.isAgg5
  z5 := Try.sizeOf5
  v5 := Try.zeroValue5
  t9 := Try.underlying9
  a9 := Try.isAgg9
  z9 := Try.sizeOf9
  v9 := Try.zeroValue9
  t21 := Try.underlying21
  a21 := Try.isAgg21
  z21 := Try.sizeOf21
  v21 := Try.zeroValue21
  t46 := Try.underlying47
  a46 := Try.isAgg47
  z46 := Try.sizeOf47
  v46 := Try.zeroValue47 }
def Try.lays153_ren : Go.Shelf.Ren := ⟨fun | 153 => 39 | 152 => 46 | 226 => 47 | 227 => 48 | 228 => 49 | 137 => 42 | 119 => 53 | 224 => 54 | 225 => 55 | 217 => 50 | 266 => 56 | n => n, fun | 9 => 9 | 3 => 3 | 4 => 4 | 5 => 5 | 21 => 21 | 117 => 43 | 116 => 42 | 0 => 0 | 46 => 47 | 124 => 48 | n => n, fun | n => n⟩
theorem Try.lays153 : Go.Proofs.Lays.n153 Try.prog Try.lays153_ren := {
  mixed := by kernel_rfl
  f119 := Try.func53.trans (congrArg some (by kernel_rfl))
  f137 := Try.func42.trans (congrArg some (by kernel_rfl))
  f152 := Try.func46.trans (congrArg some (by kernel_rfl))
  f153 := Try.func39.trans (congrArg some (by kernel_rfl))
  f217 := Try.func50.trans (congrArg some (by kernel_rfl))
  f224 := Try.func54.trans (congrArg some (by kernel_rfl))
  f225 := Try.func55.trans (congrArg some (by kernel_rfl))
  f226 := Try.func47.trans (congrArg some (by kernel_rfl))
  f227 := Try.func48.trans (congrArg some (by kernel_rfl))
  f228 := Try.func49.trans (congrArg some (by kernel_rfl))
  f266 := Try.func56.trans (congrArg some (by kernel_rfl))
  t0 := Try.underlying0
  a0 := Try.isAgg0
  z0 := Try.sizeOf0
  v0 := Try.zeroValue0
  t3 := Try.underlying3
  a3 := Try.isAgg3
  z3 := Try.sizeOf3
  v3 := Try.zeroValue3
  t4 := Try.underlying4
  a4 := Try.isAgg4
  z4 := Try.sizeOf4
  v4 := Try.zeroValue4
  t5 := Try.underlying5
  a5 := Try.isAgg5
  z5 := Try.sizeOf5
  v5 := Try.zeroValue5
  t9 := Try.underlying9
  a9 := Try.isAgg9
  z9 := Try.sizeOf9
  v9 := Try.zeroValue9
  t21 := Try.underlying21
  a21 := Try.isAgg21
  z21 := Try.sizeOf21
  v21 := Try.zeroValue21
  t46 := Try.underlying47
  a46 := Try.isAgg47
  z46 := Try.sizeOf47
  v46 := Try.zeroValue47
  t116 := Try.underlying42
  a116 := Try.isAgg42
  z116 := Try.sizeOf42
  t117 := Try.underlying43
  a117 := Try.isAgg43
  z117 := Try.sizeOf43
  v117 := Try.zeroValue43
  t124 := Try.underlying48
  a124 := Try.isAgg48
  z124 := Try.sizeOf48
  v124 := Try.zeroValue48 }
def Try.lays226_ren : Go.Shelf.Ren := ⟨fun | 226 => 47 | n => n, fun | 3 => 3 | 4 => 4 | n => n, fun | n => n⟩
theorem Try.lays226 : Go.Proofs.Lays.n226 Try.prog Try.lays226_ren := {
  mixed := by kernel_rfl
  f226 := Try.func47.trans (congrArg some (by kernel_rfl))
  t3 := Try.underlying3
  a3 := Try.isAgg3
  z3 := Try.sizeOf3
  v3 := Try.zeroValue3
  t4 := Try.underlying4
  a4 := Try.isAgg4
  z4 := Try.sizeOf4
  v4 := Try.zeroValue4 }
open Go.RowKit Go.Lib in
theorem Try.utf8_ValidRune (r : Int) (w : World) :
    Calls Try.prog 53 #[.int .i32 r] w fun e w' => e = .returned (.bool (Lib.validRune r)) ∧ w' = w := Any.utf8_ValidRune Try.lays119 r w
open Go.RowKit Go.Lib in
theorem Try.strings_IndexRune_ascii (s : ByteArray) (r : Int) (w : World) (h0 : 0 ≤ r) (h1 : r < 128) :
    Calls Try.prog 46 #[.string s, .int .i32 r] w fun e w' => e = .returned (.int .i64 (Lib.indexByte s.data.toList r.toNat.toUInt8)) ∧ w' = w := Any.strings_IndexRune_ascii Try.lays152 s r w h0 h1
open Go.RowKit Go.Lib in
theorem Try.strings_shouldUseASCIISet (n : Int) (w : World) :
    Calls Try.prog 47 #[.int .i64 n] w fun e w' => e = .returned (.bool (decide (8 < n))) ∧ w' = w := Any.strings_shouldUseASCIISet Try.lays226 n w
open Go.RowKit Go.Lib in
theorem Try.strings_IndexAny_long (s chars : ByteArray) (w : World) (h2 : 2 ≤ chars.size) (h8 : 8 < s.size) (hs : s.size < 4294967281) (hcs : chars.size < 4294967281) (hascii : ∀ (j : Nat) b, chars.data.toList[j]? = some b → b.toNat < 128) :
    Calls Try.prog 39 #[.string s, .string chars] w fun e w' => e = .returned (.int .i64 (Lib.indexAny s.data.toList chars.data.toList)) ∧ w' = ((w.alloc (.cells (Lib.setCells chars.data.toList) 42)).alloc (.cells (Lib.setCells chars.data.toList) 42)) := by
  have h116 : (Try.prog.info? 42).map (fun i => (i.zero, i.size)) = some (some (.agg (Array.replicate 256 (.bool false))), 256) := by kernel_rfl
  exact Any.strings_IndexAny_long Try.lays153 (zero_of_info h116).1 (zero_of_info h116).2 s chars w h2 h8 hs hcs hascii
end Go.Proofs
