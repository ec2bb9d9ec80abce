/-
  Contracts of Go's library that this seat's roads call, laid at the given program as plain applications of the kit's shelf (after lay-shelf.mjs and lay-plain.mjs; the laying of WriteByte, which the tool did not make, is typed by hand).
-/
import Derived.Shelf.Strings.Builder1
import Derived.Shelf.Strings.Builder2
import Derived.Shelf.Strings.Search3
import Derived.Test.Qxb6602839aProg
namespace Go.Proofs
open Go.Shelf
def Try.lays165_ren : Go.Shelf.Ren := ⟨fun | 165 => 11 | 240 => 15 | 241 => 16 | 276 => 18 | 277 => 19 | n => n, fun | 70 => 26 | 3 => 3 | 0 => 0 | 4 => 4 | 9 => 9 | 20 => 20 | 72 => 28 | 37 => 24 | 164 => 36 | 5 => 5 | n => n, fun | n => n⟩
theorem Try.lays165 : Go.Proofs.Lays.n165 Try.prog Try.lays165_ren := {
  mixed := by kernel_rfl
  f165 := Try.func11.trans (congrArg some (by kernel_rfl))
  f240 := Try.func15.trans (congrArg some (by kernel_rfl))
  f241 := Try.func16.trans (congrArg some (by kernel_rfl))
  f276 := Try.func18.trans (congrArg some (by kernel_rfl))
  f277 := Try.func19.trans (congrArg some (by kernel_rfl))
  t0 := Try.underlying0
  a0 := Try.isAgg0
  z0 := Try.sizeOf0
  v0 := Try.zeroValue0
  t3 := Try.underlying3
  a3 := Try.isAgg3
  z3 := Try.sizeOf3
  v3 := Try.zeroValue3
  t4 := Try.underlying4
  a4 := Try.isAgg4
  z4 := Try.sizeOf4
  v4 := Try.zeroValue4
  t9 := Try.underlying9
  a9 := Try.isAgg9
  z9 := Try.sizeOf9
  v9 := Try.zeroValue9
  t20 := Try.underlying20
  a20 := Try.isAgg20
  z20 := Try.sizeOf20
  v20 := Try.zeroValue20
  t37 := Try.underlying24
  a37 := Try.isAgg24
  z37 := Try.sizeOf24
  v37 := Try.zeroValue24
  t70 := Try.underlying26
  a70 := Try.isAgg26
  z70 := Try.sizeOf26
  v70 := Try.zeroValue26
  t72 := Try.underlying28
  a72 := Try.isAgg28
  z72 := Try.sizeOf28
  v72 := Try.zeroValue28
  t164 := Try.underlying36
  a164 := Try.isAgg36
  z164 := Try.sizeOf36
  v164 := Try.zeroValue36 }
theorem Try.Builder_Extra_165 : Builder.Extra Try.prog Try.lays165_ren := {
  sizeBuilder := by kernel_rfl
  liesBuilder := by kernel_rfl
  t5 := Try.underlying5
  a5 := Try.isAgg5
  z5 := Try.sizeOf5
  v5 := Try.zeroValue5
  infoByte := by kernel_rfl
  cellsByte := by kernel_rfl
  sizeByte := by kernel_rfl
  neB5 := by decide }
def Try.lays169_ren : Go.Shelf.Ren := ⟨fun | 169 => 13 | n => n, fun | 70 => 26 | 9 => 9 | 0 => 0 | 72 => 28 | 37 => 24 | 127 => 35 | 3 => 3 | 5 => 5 | n => n, fun | n => n⟩
theorem Try.lays169 : Go.Proofs.Lays.n169 Try.prog Try.lays169_ren := {
  mixed := by kernel_rfl
  f169 := Try.func13.trans (congrArg some (by kernel_rfl))
  t0 := Try.underlying0
  a0 := Try.isAgg0
  z0 := Try.sizeOf0
  v0 := Try.zeroValue0
  t3 := Try.underlying3
  a3 := Try.isAgg3
  z3 := Try.sizeOf3
  v3 := Try.zeroValue3
  t9 := Try.underlying9
  a9 := Try.isAgg9
  z9 := Try.sizeOf9
  v9 := Try.zeroValue9
  t37 := Try.underlying24
  a37 := Try.isAgg24
  z37 := Try.sizeOf24
  v37 := Try.zeroValue24
  t70 := Try.underlying26
  a70 := Try.isAgg26
  z70 := Try.sizeOf26
  v70 := Try.zeroValue26
  t72 := Try.underlying28
  a72 := Try.isAgg28
  z72 := Try.sizeOf28
  v72 := Try.zeroValue28
  t127 := Try.underlying35
  a127 := Try.isAgg35
  z127 := Try.sizeOf35
  v127 := Try.zeroValue35 }
theorem Try.Builder_Extra_169 : Builder.Extra Try.prog Try.lays169_ren := {
  sizeBuilder := by kernel_rfl
  liesBuilder := by kernel_rfl
  t5 := Try.underlying5
  a5 := Try.isAgg5
  z5 := Try.sizeOf5
  v5 := Try.zeroValue5
  infoByte := by kernel_rfl
  cellsByte := by kernel_rfl
  sizeByte := by kernel_rfl
  neB5 := by decide }
def Try.lays144_ren : Go.Shelf.Ren := ⟨fun | 144 => 10 | 143 => 14 | 219 => 17 | 217 => 20 | 225 => 21 | 224 => 22 | 267 => 23 | 266 => 24 | 314 => 25 | n => n, fun | 9 => 9 | 4 => 4 | 3 => 3 | 5 => 5 | 46 => 41 | 146 => 43 | 51 => 42 | n => n, fun | 1 => 0 | n => n⟩
theorem Try.lays144 : Go.Proofs.Lays.n144 Try.prog Try.lays144_ren := {
  mixed := by kernel_rfl
  f143 := Try.func14.trans (congrArg some (by kernel_rfl))
  f144 := Try.func10.trans (congrArg some (by kernel_rfl))
  f217 := Try.func20.trans (congrArg some (by kernel_rfl))
  f219 := Try.func17.trans (congrArg some (by kernel_rfl))
  f224 := Try.func22.trans (congrArg some (by kernel_rfl))
  f225 := Try.func21.trans (congrArg some (by kernel_rfl))
  f266 := Try.func24.trans (congrArg some (by kernel_rfl))
  f267 := Try.func23.trans (congrArg some (by kernel_rfl))
  f314 := Try.func25.trans (congrArg some (by kernel_rfl))
  t3 := Try.underlying3
  a3 := Try.isAgg3
  z3 := Try.sizeOf3
  v3 := Try.zeroValue3
  t4 := Try.underlying4
  a4 := Try.isAgg4
  z4 := Try.sizeOf4
  v4 := Try.zeroValue4
  t5 := Try.underlying5
  a5 := Try.isAgg5
  z5 := Try.sizeOf5
  v5 := Try.zeroValue5
  t9 := Try.underlying9
  a9 := Try.isAgg9
  z9 := Try.sizeOf9
  v9 := Try.zeroValue9
  t46 := Try.underlying41
  a46 := Try.isAgg41
  z46 := Try.sizeOf41
  v46 := Try.zeroValue41
  t51 := Try.underlying42
  a51 := Try.isAgg42
  z51 := Try.sizeOf42
  v51 := Try.zeroValue42
  t146 := Try.underlying43
  a146 := Try.isAgg43
  z146 := Try.sizeOf43
  v146 := Try.zeroValue43
  g1 := by kernel_rfl }
open Go.RowKit Go.Lib in
theorem Try.Builder_Grow_fresh (B b n : Nat) (w : World) (hB : B ≤ b) (hbk : w.heap[b]? = some (.cells #[.pointer none, .slice none 0 0] 28 (0, 0))) (hBw : B ≤ w.heap.size) (hn : n ≤ 281474976710656) :
    Calls Try.prog 11 #[.pointer (some ⟨b, 0, none⟩), .int .i64 n] w fun e w' => e = .returned (.tuple #[]) ∧ (Lib.BuilderAt 28 5 B b (.pointer (some ⟨b, 0, none⟩)) [] w' ∧ Below B w w') := Any.Builder_Grow_fresh Try.lays165 Try.Builder_Extra_165 B b n w hB hbk hBw hn
open Go.RowKit Go.Lib in
theorem Try.Builder_String_any (B b : Nat) (l : List UInt8) (w : World) (h : Lib.IsBuilder 28 5 B b (Lib.byteCells l) w) (hBw : B ≤ w.heap.size) :
    Calls Try.prog 13 #[.pointer (some ⟨b, 0, none⟩)] w fun e w' => e = .returned (.string ⟨l.toArray⟩) ∧ Below B w w' := Any.Builder_String_any Try.lays169 Try.Builder_Extra_169 B b l w h hBw
open Go.RowKit Go.Lib in
theorem Try.strings_Contains_one (s : ByteArray) (c : UInt8) (w : World) :
    Calls Try.prog 10 #[.string s, .string ⟨#[c]⟩] w fun e w' => e = .returned (.bool (decide (0 ≤ Lib.indexByte s.data.toList c))) ∧ w' = w := Any.strings_Contains_one Try.lays144 s c w
def Try.lays167_ren : Go.Shelf.Ren := ⟨fun | 167 => 12 | 240 => 15 | 276 => 18 | n => n, fun | 70 => 26 | 0 => 0 | 4 => 4 | 5 => 5 | 9 => 9 | 20 => 20 | 72 => 28 | 37 => 24 | 75 => 31 | 80 => 33 | 164 => 36 | n => n, fun | n => n⟩
theorem Try.lays167 : Go.Proofs.Lays.n167 Try.prog Try.lays167_ren := {
  mixed := by kernel_rfl
  f167 := Try.func12.trans (congrArg some (by kernel_rfl))
  f240 := Try.func15.trans (congrArg some (by kernel_rfl))
  f276 := Try.func18.trans (congrArg some (by kernel_rfl))
  t0 := Try.underlying0
  a0 := Try.isAgg0
  z0 := Try.sizeOf0
  v0 := Try.zeroValue0
  t4 := Try.underlying4
  a4 := Try.isAgg4
  z4 := Try.sizeOf4
  v4 := Try.zeroValue4
  t5 := Try.underlying5
  a5 := Try.isAgg5
  z5 := Try.sizeOf5
  v5 := Try.zeroValue5
  t9 := Try.underlying9
  a9 := Try.isAgg9
  z9 := Try.sizeOf9
  v9 := Try.zeroValue9
  t20 := Try.underlying20
  a20 := Try.isAgg20
  z20 := Try.sizeOf20
  v20 := Try.zeroValue20
  t37 := Try.underlying24
  a37 := Try.isAgg24
  z37 := Try.sizeOf24
  v37 := Try.zeroValue24
  t70 := Try.underlying26
  a70 := Try.isAgg26
  z70 := Try.sizeOf26
  v70 := Try.zeroValue26
  t72 := Try.underlying28
  a72 := Try.isAgg28
  z72 := Try.sizeOf28
  v72 := Try.zeroValue28
  t75 := Try.underlying31
  a75 := Try.isAgg31
  z75 := Try.sizeOf31
  v75 := Try.zeroValue31
  t164 := Try.underlying36
  a164 := Try.isAgg36
  z164 := Try.sizeOf36
  v164 := Try.zeroValue36 }
theorem Try.Builder_Extra_167 : Builder.Extra Try.prog Try.lays167_ren := {
  sizeBuilder := by kernel_rfl
  liesBuilder := by kernel_rfl
  t5 := Try.underlying5
  a5 := Try.isAgg5
  z5 := Try.sizeOf5
  v5 := Try.zeroValue5
  infoByte := by kernel_rfl
  cellsByte := by kernel_rfl
  sizeByte := by kernel_rfl
  neB5 := by decide }
open Go.RowKit in
theorem Try.Builder_WriteByte (B b : Nat) (bs : List Value) (c : Int) (w : World) (h : Lib.IsBuilder 28 5 B b bs w) (hlen : bs.length + 1 ≤ 140737488355328) (hBw : B ≤ w.heap.size) :
    Calls Try.prog 12 #[.pointer (some ⟨b, 0, none⟩), .int .u8 c] w fun e w' => e = .returned .nilIface ∧ (Lib.BuilderAt 28 5 B b (.pointer (some ⟨b, 0, none⟩)) (bs ++ [.int .u8 c]) w' ∧ Below B w w') := Any.Builder_WriteByte Try.lays167 Try.Builder_Extra_167 B b bs c w h hlen hBw
end Go.Proofs
