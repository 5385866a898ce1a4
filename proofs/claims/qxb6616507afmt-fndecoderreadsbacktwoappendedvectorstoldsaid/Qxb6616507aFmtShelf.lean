/- The shelf's two contracts of encoding/binary laid at this program, in plain words (written by the kit's tools for this program). -/
import Derived.Ground.MnProg
import Derived.Shelf.Bin.LEUint64
import Derived.Shelf.Bin.LEAppendUint64
import Derived.Test.Qxb6616507aFmtProg
namespace Go.Proofs
open Go.Shelf
def Tryf.laysBin33_ren : Go.Shelf.Ren := ⟨fun | 33 => 19 | n => n, fun | 25 => 40 | 22 => 22 | 33 => 28 | 0 => 0 | 5 => 5 | 45 => 44 | n => n, fun | n => n⟩
theorem Tryf.laysBin33 : Go.Proofs.LaysBin.n33 Tryf.prog Tryf.laysBin33_ren := {
  mixed := by kernel_rfl
  f33 := Tryf.func19.trans (congrArg some (by kernel_rfl))
  t0 := Tryf.underlying0
  a0 := Tryf.isAgg0
  z0 := Tryf.sizeOf0
  v0 := Tryf.zeroValue0
  i0 := by kernel_rfl
  t5 := Tryf.underlying5
  a5 := Tryf.isAgg5
  z5 := Tryf.sizeOf5
  v5 := Tryf.zeroValue5
  i5 := by kernel_rfl
  t22 := Tryf.underlying22
  a22 := Tryf.isAgg22
  z22 := Tryf.sizeOf22
  v22 := Tryf.zeroValue22
  i22 := by kernel_rfl
  t25 := Tryf.underlying40
  a25 := Tryf.isAgg40
  z25 := Tryf.sizeOf40
  v25 := Tryf.zeroValue40
  i25 := by kernel_rfl
  t33 := Tryf.underlying28
  a33 := Tryf.isAgg28
  z33 := Tryf.sizeOf28
  v33 := Tryf.zeroValue28
  i33 := by kernel_rfl
  t45 := Tryf.underlying44
  a45 := Tryf.isAgg44
  z45 := Tryf.sizeOf44
  v45 := Tryf.zeroValue44
  i45 := by kernel_rfl }
open Go.RowKit in
theorem Tryf.binary_LE_Uint64 (g o n c : Nat) (b0 b1 b2 b3 b4 b5 b6 b7 : UInt8) (w : World) (hn : 8 ≤ n) (c0 : w.cell? ⟨g, o, none⟩ = some (.int .u8 b0.toNat)) (c1 : w.cell? ⟨g, o + 1, none⟩ = some (.int .u8 b1.toNat)) (c2 : w.cell? ⟨g, o + 2, none⟩ = some (.int .u8 b2.toNat)) (c3 : w.cell? ⟨g, o + 3, none⟩ = some (.int .u8 b3.toNat)) (c4 : w.cell? ⟨g, o + 4, none⟩ = some (.int .u8 b4.toNat)) (c5 : w.cell? ⟨g, o + 5, none⟩ = some (.int .u8 b5.toNat)) (c6 : w.cell? ⟨g, o + 6, none⟩ = some (.int .u8 b6.toNat)) (c7 : w.cell? ⟨g, o + 7, none⟩ = some (.int .u8 b7.toNat)) :
    Calls Tryf.prog 19 #[.agg #[], .slice (some ⟨g, o, none⟩) n c] w fun e w' => e = .returned (.int .u64 (Lib.leNat [b0, b1, b2, b3, b4, b5, b6, b7])) ∧ Below w.heap.size w w' := Any.binary_LE_Uint64 Tryf.laysBin33 g o n c b0 b1 b2 b3 b4 b5 b6 b7 w hn c0 c1 c2 c3 c4 c5 c6 c7
def Tryf.laysBin35_ren : Go.Shelf.Ren := ⟨fun | 35 => 18 | n => n, fun | 25 => 40 | 22 => 22 | 33 => 28 | 0 => 0 | 5 => 5 | 45 => 44 | n => n, fun | n => n⟩
theorem Tryf.laysBin35 : Go.Proofs.LaysBin.n35 Tryf.prog Tryf.laysBin35_ren := {
  mixed := by kernel_rfl
  f35 := Tryf.func18.trans (congrArg some (by kernel_rfl))
  t0 := Tryf.underlying0
  a0 := Tryf.isAgg0
  z0 := Tryf.sizeOf0
  v0 := Tryf.zeroValue0
  i0 := by kernel_rfl
  t5 := Tryf.underlying5
  a5 := Tryf.isAgg5
  z5 := Tryf.sizeOf5
  v5 := Tryf.zeroValue5
  i5 := by kernel_rfl
  t22 := Tryf.underlying22
  a22 := Tryf.isAgg22
  z22 := Tryf.sizeOf22
  v22 := Tryf.zeroValue22
  i22 := by kernel_rfl
  t25 := Tryf.underlying40
  a25 := Tryf.isAgg40
  z25 := Tryf.sizeOf40
  v25 := Tryf.zeroValue40
  i25 := by kernel_rfl
  t33 := Tryf.underlying28
  a33 := Tryf.isAgg28
  z33 := Tryf.sizeOf28
  v33 := Tryf.zeroValue28
  i33 := by kernel_rfl
  t45 := Tryf.underlying44
  a45 := Tryf.isAgg44
  z45 := Tryf.sizeOf44
  v45 := Tryf.zeroValue44
  i45 := by kernel_rfl }
open Go.RowKit in
theorem Tryf.binary_LE_AppendUint64 (B n v : Nat) (hv : v < 18446744073709551616) (sv : Value) (xs : List Value) (w : World) (hown : w.ownsRow B 5 1 sv n xs) (hBw : B ≤ w.heap.size) (hlim : n + 8 ≤ 140737488355328) :
    Calls Tryf.prog 18 #[.agg #[], sv, .int .u64 v] w fun e w' => ∃ v', e = .returned v' ∧ w'.ownsRow B 5 1 v' (n + 8) (xs ++ Lib.byteCells (Lib.leBytes 8 v)) ∧ Below B w w' := Any.binary_LE_AppendUint64 Tryf.laysBin35 B n v hv sv xs w hown hBw hlim
end Go.Proofs
