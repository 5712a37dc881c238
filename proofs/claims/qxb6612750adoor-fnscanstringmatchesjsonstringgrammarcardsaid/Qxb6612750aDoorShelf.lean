/-
  DERIVED: THE SHELF's CONTRACTS AT THIS DUMP, IN PLAIN WORDS (tools/lay-plain.mjs out of 'Qxb6612750aDoorShelf.lean', which tools/lay-shelf.mjs wrote): THE SAME DECLARATIONS UNDER THE SAME NAMES: 'import', 'namespace', 'open', 'def', 'theorem' AND NOTHING ELSE: no command of the shelf's: FOR A HAND-IN. Each laying: the table of numbers ('.._ren') and one theorem, a field a fact of the dump's own or the kernel's comparison; each contract: ONE APPLICATION.
-/
import Derived.Ground.MnProg
import Derived.Shelf.Bin.LEUint64
import Derived.Shelf.Bin.ReadersZ
import Derived.Shelf.Lays7
import Derived.Shelf.Spec.TrailingZeros
import Derived.Test.Qxb6612750aDoorProg
namespace Go.Proofs
open Go.Shelf
def Tryd.laysBin33_ren : Go.Shelf.Ren := ⟨fun | 33 => 13 | n => n, fun | 25 => 33 | 22 => 22 | 33 => 30 | 0 => 0 | 5 => 5 | 45 => 39 | n => n, fun | n => n⟩
theorem Tryd.laysBin33 : Go.Proofs.LaysBin.n33 Tryd.prog Tryd.laysBin33_ren := {
  mixed := by kernel_rfl
  f33 := Tryd.func13.trans (congrArg some (by kernel_rfl))
  t0 := Tryd.underlying0
  a0 := Tryd.isAgg0
  z0 := Tryd.sizeOf0
  v0 := Tryd.zeroValue0
  i0 := by kernel_rfl
  t5 := Tryd.underlying5
  a5 := Tryd.isAgg5
  z5 := Tryd.sizeOf5
  v5 := Tryd.zeroValue5
  i5 := by kernel_rfl
  t22 := Tryd.underlying22
  a22 := Tryd.isAgg22
  z22 := Tryd.sizeOf22
  v22 := Tryd.zeroValue22
  i22 := by kernel_rfl
  t25 := Tryd.underlying33
  a25 := Tryd.isAgg33
  z25 := Tryd.sizeOf33
  v25 := Tryd.zeroValue33
  i25 := by kernel_rfl
  t33 := Tryd.underlying30
  a33 := Tryd.isAgg30
  z33 := Tryd.sizeOf30
  v33 := Tryd.zeroValue30
  i33 := by kernel_rfl
  t45 := Tryd.underlying39
  a45 := Tryd.isAgg39
  z45 := Tryd.sizeOf39
  v45 := Tryd.zeroValue39
  i45 := by kernel_rfl }
def Tryd.lays29_ren : Go.Shelf.Ren := ⟨fun | 29 => 14 | n => n, fun | 22 => 30 | 3 => 3 | 4 => 4 | 25 => 39 | 54 => 40 | 0 => 0 | 5 => 5 | n => n, fun | 1 => 1 | n => n⟩
theorem Tryd.lays29 : Go.Proofs.Lays7.n29 Tryd.prog Tryd.lays29_ren := {
  mixed := by kernel_rfl
  f29 := Tryd.func14.trans (congrArg some (by kernel_rfl))
  t0 := Tryd.underlying0
  a0 := Tryd.isAgg0
  z0 := Tryd.sizeOf0
  v0 := Tryd.zeroValue0
  i0 := by kernel_rfl
  t3 := Tryd.underlying3
  a3 := Tryd.isAgg3
  z3 := Tryd.sizeOf3
  v3 := Tryd.zeroValue3
  i3 := by kernel_rfl
  t4 := Tryd.underlying4
  a4 := Tryd.isAgg4
  z4 := Tryd.sizeOf4
  v4 := Tryd.zeroValue4
  i4 := by kernel_rfl
  t5 := Tryd.underlying5
  a5 := Tryd.isAgg5
  z5 := Tryd.sizeOf5
  v5 := Tryd.zeroValue5
  i5 := by kernel_rfl
  t22 := Tryd.underlying30
  a22 := Tryd.isAgg30
  z22 := Tryd.sizeOf30
  v22 := Tryd.zeroValue30
  i22 := by kernel_rfl
  t25 := Tryd.underlying39
  a25 := Tryd.isAgg39
  z25 := Tryd.sizeOf39
  v25 := Tryd.zeroValue39
  i25 := by kernel_rfl
  t54 := Tryd.underlying40
  a54 := Tryd.isAgg40
  z54 := Tryd.sizeOf40
  g1 := by kernel_rfl }
open Go.RowKit in
/-- binary.LittleEndian.Uint64: the number that the first 8 bytes spell. -/
theorem Tryd.binary_LE_Uint64_z (a : Addr) (n c : Nat) (zs : List Int) (w : World) (hn : 8 ≤ n) (hl : 8 ≤ zs.length) (hcell : ∀ i, i < zs.length → w.cell? (a.add i) = some (.int .u8 (zs.getD i 0))) (hw : ∀ z ∈ zs, (Lit.int .u8 z).wf = true) :
    Calls Tryd.prog 13 #[.agg #[], .slice (some a) n c] w fun e w' => e = .returned (.int .u64 (Lib.leZ (zs.take 8))) ∧ Below w.heap.size w w' := Any.binary_LE_Uint64_z Tryd.laysBin33 a n c zs w hn hl hcell hw
open Go.RowKit in
/-- math/bits.TrailingZeros64, every x. -/
theorem Tryd.bits_TrailingZeros64 (x : Nat) (hx : x < 18446744073709551616) (w : World) (hT : x ≠ 0 → TabAt 1 Lib.deBruijn64tab w) :
    Calls Tryd.prog 14 #[.int .u64 x] w fun e w' => e = .returned (.int .i64 (Lib.ctz 64 x)) ∧ w' = w := Any7.bits_TrailingZeros64 Tryd.lays29 x hx w hT
end Go.Proofs
