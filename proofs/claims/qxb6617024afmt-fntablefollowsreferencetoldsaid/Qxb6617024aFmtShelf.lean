import Derived.Ground.MnProg
import Derived.Shelf.Bin.LEUint16
import Derived.Shelf.Bin.LEUint32
import Derived.Shelf.Bin.ReadersZ
import Derived.Test.Qxb6617024aFmtProg
namespace Go.Proofs
open Go.Shelf
def Tryf.laysBin27_ren : Go.Shelf.Ren := ⟨fun | 27 => 33 | n => n, fun | 25 => 54 | 22 => 22 | 23 => 58 | 0 => 0 | 5 => 5 | 45 => 60 | n => n, fun | n => n⟩
theorem Tryf.laysBin27 : Go.Proofs.LaysBin.n27 Tryf.prog Tryf.laysBin27_ren := {
  mixed := by kernel_rfl
  f27 := Tryf.func33.trans (congrArg some (by kernel_rfl))
  t0 := Tryf.underlying0
  a0 := Tryf.isAgg0
  z0 := Tryf.sizeOf0
  v0 := Tryf.zeroValue0
  i0 := by kernel_rfl
  t5 := Tryf.underlying5
  a5 := Tryf.isAgg5
  z5 := Tryf.sizeOf5
  v5 := Tryf.zeroValue5
  i5 := by kernel_rfl
  t22 := Tryf.underlying22
  a22 := Tryf.isAgg22
  z22 := Tryf.sizeOf22
  v22 := Tryf.zeroValue22
  i22 := by kernel_rfl
  t23 := Tryf.underlying58
  a23 := Tryf.isAgg58
  z23 := Tryf.sizeOf58
  v23 := Tryf.zeroValue58
  i23 := by kernel_rfl
  t25 := Tryf.underlying54
  a25 := Tryf.isAgg54
  z25 := Tryf.sizeOf54
  v25 := Tryf.zeroValue54
  i25 := by kernel_rfl
  t45 := Tryf.underlying60
  a45 := Tryf.isAgg60
  z45 := Tryf.sizeOf60
  v45 := Tryf.zeroValue60
  i45 := by kernel_rfl }
open Go.RowKit in
theorem Tryf.binary_LE_Uint16 (g o n c : Nat) (b0 b1 : UInt8) (w : World) (hn : 2 ≤ n) (c0 : w.cell? ⟨g, o, none⟩ = some (.int .u8 b0.toNat)) (c1 : w.cell? ⟨g, o + 1, none⟩ = some (.int .u8 b1.toNat)) :
    Calls Tryf.prog 33 #[.agg #[], .slice (some ⟨g, o, none⟩) n c] w fun e w' => e = .returned (.int .u16 (Lib.leNat [b0, b1])) ∧ Below w.heap.size w w' := Any.binary_LE_Uint16 Tryf.laysBin27 g o n c b0 b1 w hn c0 c1
def Tryf.laysBin30_ren : Go.Shelf.Ren := ⟨fun | 30 => 31 | n => n, fun | 25 => 54 | 22 => 22 | 29 => 44 | 0 => 0 | 5 => 5 | 45 => 60 | n => n, fun | n => n⟩
theorem Tryf.laysBin30 : Go.Proofs.LaysBin.n30 Tryf.prog Tryf.laysBin30_ren := {
  mixed := by kernel_rfl
  f30 := Tryf.func31.trans (congrArg some (by kernel_rfl))
  t0 := Tryf.underlying0
  a0 := Tryf.isAgg0
  z0 := Tryf.sizeOf0
  v0 := Tryf.zeroValue0
  i0 := by kernel_rfl
  t5 := Tryf.underlying5
  a5 := Tryf.isAgg5
  z5 := Tryf.sizeOf5
  v5 := Tryf.zeroValue5
  i5 := by kernel_rfl
  t22 := Tryf.underlying22
  a22 := Tryf.isAgg22
  z22 := Tryf.sizeOf22
  v22 := Tryf.zeroValue22
  i22 := by kernel_rfl
  t25 := Tryf.underlying54
  a25 := Tryf.isAgg54
  z25 := Tryf.sizeOf54
  v25 := Tryf.zeroValue54
  i25 := by kernel_rfl
  t29 := Tryf.underlying44
  a29 := Tryf.isAgg44
  z29 := Tryf.sizeOf44
  v29 := Tryf.zeroValue44
  i29 := by kernel_rfl
  t45 := Tryf.underlying60
  a45 := Tryf.isAgg60
  z45 := Tryf.sizeOf60
  v45 := Tryf.zeroValue60
  i45 := by kernel_rfl }
open Go.RowKit in
theorem Tryf.binary_LE_Uint32 (g o n c : Nat) (b0 b1 b2 b3 : UInt8) (w : World) (hn : 4 ≤ n) (c0 : w.cell? ⟨g, o, none⟩ = some (.int .u8 b0.toNat)) (c1 : w.cell? ⟨g, o + 1, none⟩ = some (.int .u8 b1.toNat)) (c2 : w.cell? ⟨g, o + 2, none⟩ = some (.int .u8 b2.toNat)) (c3 : w.cell? ⟨g, o + 3, none⟩ = some (.int .u8 b3.toNat)) :
    Calls Tryf.prog 31 #[.agg #[], .slice (some ⟨g, o, none⟩) n c] w fun e w' => e = .returned (.int .u32 (Lib.leNat [b0, b1, b2, b3])) ∧ Below w.heap.size w w' := Any.binary_LE_Uint32 Tryf.laysBin30 g o n c b0 b1 b2 b3 w hn c0 c1 c2 c3
open Go.RowKit in
theorem Tryf.binary_LE_Uint16_z (a : Addr) (n c : Nat) (zs : List Int) (w : World) (hn : 2 ≤ n) (hl : 2 ≤ zs.length) (hcell : ∀ i, i < zs.length → w.cell? (a.add i) = some (.int .u8 (zs.getD i 0))) (hw : ∀ z ∈ zs, (Lit.int .u8 z).wf = true) :
    Calls Tryf.prog 33 #[.agg #[], .slice (some a) n c] w fun e w' => e = .returned (.int .u16 (Lib.leZ (zs.take 2))) ∧ Below w.heap.size w w' := Any.binary_LE_Uint16_z Tryf.laysBin27 a n c zs w hn hl hcell hw
open Go.RowKit in
theorem Tryf.binary_LE_Uint32_z (a : Addr) (n c : Nat) (zs : List Int) (w : World) (hn : 4 ≤ n) (hl : 4 ≤ zs.length) (hcell : ∀ i, i < zs.length → w.cell? (a.add i) = some (.int .u8 (zs.getD i 0))) (hw : ∀ z ∈ zs, (Lit.int .u8 z).wf = true) :
    Calls Tryf.prog 31 #[.agg #[], .slice (some a) n c] w fun e w' => e = .returned (.int .u32 (Lib.leZ (zs.take 4))) ∧ Below w.heap.size w w' := Any.binary_LE_Uint32_z Tryf.laysBin30 a n c zs w hn hl hcell hw
end Go.Proofs
