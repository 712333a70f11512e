/- The kit's contracts of encoding/binary's four functions on varints, laid at this program by the kit's own tools (lay-shelf, lay-plain). -/
import Derived.Ground.MnProg
import Derived.Shelf.Bin.PutUvarint
import Derived.Shelf.Bin.PutVarint
import Derived.Shelf.Bin.Uvarint
import Derived.Shelf.Bin.Varint
import Derived.Shelf.Bin.UvarintEmpty
import Derived.Shelf.Bin.VarintEmpty
import Derived.Test.YtfbnnbbjfjhkjaaProg
namespace Go.Proofs.Ytfbnnbbjfjhkjaa
open Go.Shelf
def Try.laysBin46_ren : Go.Shelf.Ren := ⟨fun | 46 => 44 | n => n, fun | 22 => 23 | 33 => 30 | 3 => 3 | 4 => 4 | 5 => 5 | 0 => 0 | 45 => 95 | n => n, fun | n => n⟩
theorem Try.laysBin46 : Go.Proofs.LaysBin.n46 Try.prog Try.laysBin46_ren := {
  mixed := by kernel_rfl
  f46 := Try.func44.trans (congrArg some (by kernel_rfl))
  t0 := Try.underlying0
  a0 := Try.isAgg0
  z0 := Try.sizeOf0
  v0 := Try.zeroValue0
  i0 := by kernel_rfl
  t3 := Try.underlying3
  a3 := Try.isAgg3
  z3 := Try.sizeOf3
  v3 := Try.zeroValue3
  i3 := by kernel_rfl
  t4 := Try.underlying4
  a4 := Try.isAgg4
  z4 := Try.sizeOf4
  v4 := Try.zeroValue4
  i4 := by kernel_rfl
  t5 := Try.underlying5
  a5 := Try.isAgg5
  z5 := Try.sizeOf5
  v5 := Try.zeroValue5
  i5 := by kernel_rfl
  t22 := Try.underlying23
  a22 := Try.isAgg23
  z22 := Try.sizeOf23
  v22 := Try.zeroValue23
  i22 := by kernel_rfl
  t33 := Try.underlying30
  a33 := Try.isAgg30
  z33 := Try.sizeOf30
  v33 := Try.zeroValue30
  i33 := by kernel_rfl
  t45 := Try.underlying95
  a45 := Try.isAgg95
  z45 := Try.sizeOf95
  v45 := Try.zeroValue95
  i45 := by kernel_rfl }
open Go.RowKit in
theorem Try.binary_PutUvarint (g o n c x : Nat) (hx : x < 18446744073709551616) (w : World) (hn : (Lib.uvarint x).length ≤ n) (hcell : ∀ j, j < (Lib.uvarint x).length → (w.cell? ⟨g, o + j, none⟩).isSome = true ∧ w.frozen? ⟨g, o + j, none⟩ = false) :
    Calls Try.prog 44 #[.slice (some ⟨g, o, none⟩) n c, .int .u64 x] w fun e w' => e = .returned (.int .i64 (Lib.uvarint x).length) ∧ w' = w.setCells g o (Lib.byteCells (Lib.uvarint x)) := Any.binary_PutUvarint Try.laysBin46 g o n c x hx w hn hcell
def Try.laysBin49_ren : Go.Shelf.Ren := ⟨fun | 49 => 45 | 46 => 44 | n => n, fun | 22 => 23 | 2 => 2 | 3 => 3 | 33 => 30 | 45 => 95 | 4 => 4 | 5 => 5 | 0 => 0 | n => n, fun | n => n⟩
theorem Try.laysBin49 : Go.Proofs.LaysBin.n49 Try.prog Try.laysBin49_ren := {
  mixed := by kernel_rfl
  f46 := Try.func44.trans (congrArg some (by kernel_rfl))
  f49 := Try.func45.trans (congrArg some (by kernel_rfl))
  t0 := Try.underlying0
  a0 := Try.isAgg0
  z0 := Try.sizeOf0
  v0 := Try.zeroValue0
  i0 := by kernel_rfl
  t2 := Try.underlying2
  a2 := Try.isAgg2
  z2 := Try.sizeOf2
  v2 := Try.zeroValue2
  i2 := by kernel_rfl
  t3 := Try.underlying3
  a3 := Try.isAgg3
  z3 := Try.sizeOf3
  v3 := Try.zeroValue3
  i3 := by kernel_rfl
  t4 := Try.underlying4
  a4 := Try.isAgg4
  z4 := Try.sizeOf4
  v4 := Try.zeroValue4
  i4 := by kernel_rfl
  t5 := Try.underlying5
  a5 := Try.isAgg5
  z5 := Try.sizeOf5
  v5 := Try.zeroValue5
  i5 := by kernel_rfl
  t22 := Try.underlying23
  a22 := Try.isAgg23
  z22 := Try.sizeOf23
  v22 := Try.zeroValue23
  i22 := by kernel_rfl
  t33 := Try.underlying30
  a33 := Try.isAgg30
  z33 := Try.sizeOf30
  v33 := Try.zeroValue30
  i33 := by kernel_rfl
  t45 := Try.underlying95
  a45 := Try.isAgg95
  z45 := Try.sizeOf95
  v45 := Try.zeroValue95
  i45 := by kernel_rfl }
open Go.RowKit in
theorem Try.binary_PutVarint (g o n c : Nat) (x : Int) (h0 : -9223372036854775808 ≤ x) (h1 : x ≤ 9223372036854775807) (w : World) (hn : (Lib.uvarint (Lib.zigzag x)).length ≤ n) (hcell : ∀ j, j < (Lib.uvarint (Lib.zigzag x)).length → (w.cell? ⟨g, o + j, none⟩).isSome = true ∧ w.frozen? ⟨g, o + j, none⟩ = false) :
    Calls Try.prog 45 #[.slice (some ⟨g, o, none⟩) n c, .int .i64 x] w fun e w' => e = .returned (.int .i64 (Lib.uvarint (Lib.zigzag x)).length) ∧ w' = w.setCells g o (Lib.byteCells (Lib.uvarint (Lib.zigzag x))) := Any.binary_PutVarint Try.laysBin49 g o n c x h0 h1 w hn hcell
def Try.laysBin45_ren : Go.Shelf.Ren := ⟨fun | 45 => 47 | n => n, fun | 22 => 23 | 33 => 30 | 3 => 3 | 45 => 95 | 0 => 0 | 5 => 5 | 4 => 4 | n => n, fun | n => n⟩
theorem Try.laysBin45 : Go.Proofs.LaysBin.n45 Try.prog Try.laysBin45_ren := {
  mixed := by kernel_rfl
  f45 := Try.func47.trans (congrArg some (by kernel_rfl))
  t0 := Try.underlying0
  a0 := Try.isAgg0
  z0 := Try.sizeOf0
  v0 := Try.zeroValue0
  i0 := by kernel_rfl
  t3 := Try.underlying3
  a3 := Try.isAgg3
  z3 := Try.sizeOf3
  v3 := Try.zeroValue3
  i3 := by kernel_rfl
  t4 := Try.underlying4
  a4 := Try.isAgg4
  z4 := Try.sizeOf4
  v4 := Try.zeroValue4
  i4 := by kernel_rfl
  t5 := Try.underlying5
  a5 := Try.isAgg5
  z5 := Try.sizeOf5
  v5 := Try.zeroValue5
  i5 := by kernel_rfl
  t22 := Try.underlying23
  a22 := Try.isAgg23
  z22 := Try.sizeOf23
  v22 := Try.zeroValue23
  i22 := by kernel_rfl
  t33 := Try.underlying30
  a33 := Try.isAgg30
  z33 := Try.sizeOf30
  v33 := Try.zeroValue30
  i33 := by kernel_rfl
  t45 := Try.underlying95
  a45 := Try.isAgg95
  z45 := Try.sizeOf95
  v45 := Try.zeroValue95
  i45 := by kernel_rfl }
open Go.RowKit in
theorem Try.binary_Uvarint (g o n c : Nat) (l : List UInt8) (w : World) (hl : l.length = n) (hcell : ∀ j (hj : j < l.length), w.cell? ⟨g, o + j, none⟩ = some (.int .u8 (l[j]).toNat)) :
    Calls Try.prog 47 #[.slice (some ⟨g, o, none⟩) n c] w fun e w' => e = .returned (.tuple #[.int .u64 (Lib.uvarintDec l).1, .int .i64 (Lib.uvarintDec l).2]) ∧ w' = w := Any.binary_Uvarint Try.laysBin45 g o n c l w hl hcell
def Try.laysBin48_ren : Go.Shelf.Ren := ⟨fun | 48 => 46 | 45 => 47 | n => n, fun | 22 => 23 | 2 => 2 | 3 => 3 | 38 => 101 | 33 => 30 | 45 => 95 | 4 => 4 | 0 => 0 | 5 => 5 | n => n, fun | n => n⟩
theorem Try.laysBin48 : Go.Proofs.LaysBin.n48 Try.prog Try.laysBin48_ren := {
  mixed := by kernel_rfl
  f45 := Try.func47.trans (congrArg some (by kernel_rfl))
  f48 := Try.func46.trans (congrArg some (by kernel_rfl))
  t0 := Try.underlying0
  a0 := Try.isAgg0
  z0 := Try.sizeOf0
  v0 := Try.zeroValue0
  i0 := by kernel_rfl
  t2 := Try.underlying2
  a2 := Try.isAgg2
  z2 := Try.sizeOf2
  v2 := Try.zeroValue2
  i2 := by kernel_rfl
  t3 := Try.underlying3
  a3 := Try.isAgg3
  z3 := Try.sizeOf3
  v3 := Try.zeroValue3
  i3 := by kernel_rfl
  t4 := Try.underlying4
  a4 := Try.isAgg4
  z4 := Try.sizeOf4
  v4 := Try.zeroValue4
  i4 := by kernel_rfl
  t5 := Try.underlying5
  a5 := Try.isAgg5
  z5 := Try.sizeOf5
  v5 := Try.zeroValue5
  i5 := by kernel_rfl
  t22 := Try.underlying23
  a22 := Try.isAgg23
  z22 := Try.sizeOf23
  v22 := Try.zeroValue23
  i22 := by kernel_rfl
  t33 := Try.underlying30
  a33 := Try.isAgg30
  z33 := Try.sizeOf30
  v33 := Try.zeroValue30
  i33 := by kernel_rfl
  t38 := Try.underlying101
  a38 := Try.isAgg101
  z38 := Try.sizeOf101
  v38 := Try.zeroValue101
  i38 := by kernel_rfl
  t45 := Try.underlying95
  a45 := Try.isAgg95
  z45 := Try.sizeOf95
  v45 := Try.zeroValue95
  i45 := by kernel_rfl }
open Go.RowKit in
theorem Try.binary_Varint (g o n c : Nat) (l : List UInt8) (w : World) (hl : l.length = n) (hcell : ∀ j (hj : j < l.length), w.cell? ⟨g, o + j, none⟩ = some (.int .u8 (l[j]).toNat)) :
    Calls Try.prog 46 #[.slice (some ⟨g, o, none⟩) n c] w fun e w' => e = .returned (.tuple #[.int .i64 (Lib.varintDec l).1, .int .i64 (Lib.varintDec l).2]) ∧ w' = w := Any.binary_Varint Try.laysBin48 g o n c l w hl hcell
open Go.RowKit in
theorem Try.binary_Uvarint_empty (ao : Option Addr) (c : Nat) (w : World) :
    Calls Try.prog 47 #[.slice ao 0 c] w fun e w' => e = .returned (.tuple #[.int .u64 (Lib.uvarintDec []).1, .int .i64 (Lib.uvarintDec []).2]) ∧ w' = w := Any.binary_Uvarint_empty Try.laysBin45 ao c w
open Go.RowKit in
theorem Try.binary_Varint_empty (ao : Option Addr) (c : Nat) (w : World) :
    Calls Try.prog 46 #[.slice ao 0 c] w fun e w' => e = .returned (.tuple #[.int .i64 (Lib.varintDec []).1, .int .i64 (Lib.varintDec []).2]) ∧ w' = w := Any.binary_Varint_empty Try.laysBin48 ao c w
end Go.Proofs.Ytfbnnbbjfjhkjaa
