/- The shelf's contracts at this dump, in plain words, as the kit's lay-plain tool writes them for this program; cut to what the two laws use: binary.AppendUvarint, binary.Uvarint, strings.Count at one byte. -/
import Derived.Shelf.Bin.AppendUvarint
import Derived.Shelf.Bin.Uvarint
import Derived.Shelf.Strings.Count
import Derived.Test.Qxb6001745aProg
namespace Go.Proofs
open Go.Shelf
def Try.laysBin47_ren : Go.Shelf.Ren := ⟨fun | 47 => 36 | n => n, fun | 22 => 42 | 33 => 44 | 4 => 4 | 5 => 5 | 45 => 54 | n => n, fun | n => n⟩
theorem Try.laysBin47 : Go.Proofs.LaysBin.n47 Try.prog Try.laysBin47_ren := {
  mixed := by kernel_rfl
  f47 := Try.func36.trans (congrArg some (by kernel_rfl))
  t4 := Try.underlying4
  a4 := Try.isAgg4
  z4 := Try.sizeOf4
  v4 := Try.zeroValue4
  i4 := by kernel_rfl
  t5 := Try.underlying5
  a5 := Try.isAgg5
  z5 := Try.sizeOf5
  v5 := Try.zeroValue5
  i5 := by kernel_rfl
  t22 := Try.underlying42
  a22 := Try.isAgg42
  z22 := Try.sizeOf42
  v22 := Try.zeroValue42
  i22 := by kernel_rfl
  t33 := Try.underlying44
  a33 := Try.isAgg44
  z33 := Try.sizeOf44
  v33 := Try.zeroValue44
  i33 := by kernel_rfl
  t45 := Try.underlying54
  a45 := Try.isAgg54
  z45 := Try.sizeOf54
  v45 := Try.zeroValue54
  i45 := by kernel_rfl }
open Go.RowKit in
theorem Try.binary_AppendUvarint (B n x : Nat) (hx : x < 18446744073709551616) (sv : Value) (xs : List Value) (w : World) (hown : w.ownsRow B 5 1 sv n xs) (hBw : B ≤ w.heap.size) (hlim : n + 10 ≤ 140737488355328) :
    Calls Try.prog 36 #[sv, .int .u64 x] w fun e w' => ∃ v', e = .returned v' ∧ w'.ownsRow B 5 1 v' (n + (Lib.uvarint x).length) (xs ++ Lib.byteCells (Lib.uvarint x)) ∧ Below B w w' := Any.binary_AppendUvarint Try.laysBin47 B n x hx sv xs w hown hBw hlim
def Try.laysBin45_ren : Go.Shelf.Ren := ⟨fun | 45 => 39 | n => n, fun | 22 => 42 | 33 => 44 | 3 => 3 | 45 => 54 | 0 => 0 | 5 => 5 | 4 => 4 | n => n, fun | n => n⟩
theorem Try.laysBin45 : Go.Proofs.LaysBin.n45 Try.prog Try.laysBin45_ren := {
  mixed := by kernel_rfl
  f45 := Try.func39.trans (congrArg some (by kernel_rfl))
  t0 := Try.underlying0
  a0 := Try.isAgg0
  z0 := Try.sizeOf0
  v0 := Try.zeroValue0
  i0 := by kernel_rfl
  t3 := Try.underlying3
  a3 := Try.isAgg3
  z3 := Try.sizeOf3
  v3 := Try.zeroValue3
  i3 := by kernel_rfl
  t4 := Try.underlying4
  a4 := Try.isAgg4
  z4 := Try.sizeOf4
  v4 := Try.zeroValue4
  i4 := by kernel_rfl
  t5 := Try.underlying5
  a5 := Try.isAgg5
  z5 := Try.sizeOf5
  v5 := Try.zeroValue5
  i5 := by kernel_rfl
  t22 := Try.underlying42
  a22 := Try.isAgg42
  z22 := Try.sizeOf42
  v22 := Try.zeroValue42
  i22 := by kernel_rfl
  t33 := Try.underlying44
  a33 := Try.isAgg44
  z33 := Try.sizeOf44
  v33 := Try.zeroValue44
  i33 := by kernel_rfl
  t45 := Try.underlying54
  a45 := Try.isAgg54
  z45 := Try.sizeOf54
  v45 := Try.zeroValue54
  i45 := by kernel_rfl }
open Go.RowKit in
theorem Try.binary_Uvarint (g o n c : Nat) (l : List UInt8) (w : World) (hl : l.length = n) (hcell : ∀ j (hj : j < l.length), w.cell? ⟨g, o + j, none⟩ = some (.int .u8 (l[j]).toNat)) :
    Calls Try.prog 39 #[.slice (some ⟨g, o, none⟩) n c] w fun e w' => e = .returned (.tuple #[.int .u64 (Lib.uvarintDec l).1, .int .i64 (Lib.uvarintDec l).2]) ∧ w' = w := Any.binary_Uvarint Try.laysBin45 g o n c l w hl hcell
def Try.lays138_ren : Go.Shelf.Ren := ⟨fun | 138 => 40 | 195 => 42 | 218 => 43 | 143 => 44 | 219 => 45 | 217 => 46 | 225 => 47 | 224 => 48 | 267 => 49 | 266 => 50 | 314 => 51 | n => n, fun | 9 => 9 | 3 => 3 | 4 => 4 | 5 => 5 | 0 => 0 | 46 => 54 | 146 => 65 | 51 => 64 | n => n, fun | 1 => 0 | n => n⟩
theorem Try.lays138 : Go.Proofs.Lays.n138 Try.prog Try.lays138_ren := {
  mixed := by kernel_rfl
  f138 := Try.func40.trans (congrArg some (by kernel_rfl))
  f143 := Try.func44.trans (congrArg some (by kernel_rfl))
  f195 := Try.func42.trans (congrArg some (by kernel_rfl))
  f217 := Try.func46.trans (congrArg some (by kernel_rfl))
  f218 := Try.func43.trans (congrArg some (by kernel_rfl))
  f219 := Try.func45.trans (congrArg some (by kernel_rfl))
  f224 := Try.func48.trans (congrArg some (by kernel_rfl))
  f225 := Try.func47.trans (congrArg some (by kernel_rfl))
  f266 := Try.func50.trans (congrArg some (by kernel_rfl))
  f267 := Try.func49.trans (congrArg some (by kernel_rfl))
  f314 := Try.func51.trans (congrArg some (by kernel_rfl))
  t0 := Try.underlying0
  a0 := Try.isAgg0
  z0 := Try.sizeOf0
  v0 := Try.zeroValue0
  t3 := Try.underlying3
  a3 := Try.isAgg3
  z3 := Try.sizeOf3
  v3 := Try.zeroValue3
  t4 := Try.underlying4
  a4 := Try.isAgg4
  z4 := Try.sizeOf4
  v4 := Try.zeroValue4
  t5 := Try.underlying5
  a5 := Try.isAgg5
  z5 := Try.sizeOf5
  v5 := Try.zeroValue5
  t9 := Try.underlying9
  a9 := Try.isAgg9
  z9 := Try.sizeOf9
  v9 := Try.zeroValue9
  t46 := Try.underlying54
  a46 := Try.isAgg54
  z46 := Try.sizeOf54
  v46 := Try.zeroValue54
  t51 := Try.underlying64
  a51 := Try.isAgg64
  z51 := Try.sizeOf64
  v51 := Try.zeroValue64
  t146 := Try.underlying65
  a146 := Try.isAgg65
  z146 := Try.sizeOf65
  v146 := Try.zeroValue65
  g1 := by kernel_rfl }
open Go.RowKit Go.Lib in
theorem Try.strings_Count_one (s : ByteArray) (c : UInt8) (w : World) :
    Calls Try.prog 40 #[.string s, .string ⟨#[c]⟩] w fun e w' => e = .returned (.int .i64 (Lib.countByte s.data.toList c)) ∧ w' = w := Any.strings_Count_one Try.lays138 s c w
end Go.Proofs
