/-
  binary.BigEndian.Uint32 by the shelf's contract, laid at this dump (written by the kit's lay-plain.mjs).
-/
import Derived.Ground.MnProg
import Derived.Shelf.Bin.BEUint32
import Derived.Shelf.Bin.ReadersZ
import Derived.Test.Qxb6612240aRows
namespace Go.Proofs.Qxb6612240a
open Go Go.Shelf
def Try.laysBin39_ren : Go.Shelf.Ren := ⟨fun | 39 => 41 | n => n, fun | 37 => 127 | 22 => 22 | 29 => 62 | 0 => 0 | 5 => 5 | 45 => 63 | n => n, fun | n => n⟩
theorem Try.laysBin39 : Go.Proofs.LaysBin.n39 Try.prog Try.laysBin39_ren := {
  mixed := by kernel_rfl
  f39 := Try.func41.trans (congrArg some (by kernel_rfl))
  t0 := Try.underlying0
  a0 := Try.isAgg0
  z0 := Try.sizeOf0
  v0 := Try.zeroValue0
  i0 := by kernel_rfl
  t5 := Try.underlying5
  a5 := Try.isAgg5
  z5 := Try.sizeOf5
  v5 := Try.zeroValue5
  i5 := by kernel_rfl
  t22 := Try.underlying22
  a22 := Try.isAgg22
  z22 := Try.sizeOf22
  v22 := Try.zeroValue22
  i22 := by kernel_rfl
  t29 := Try.underlying62
  a29 := Try.isAgg62
  z29 := Try.sizeOf62
  v29 := Try.zeroValue62
  i29 := by kernel_rfl
  t37 := Try.underlying127
  a37 := Try.isAgg127
  z37 := Try.sizeOf127
  v37 := Try.zeroValue127
  i37 := by kernel_rfl
  t45 := Try.underlying63
  a45 := Try.isAgg63
  z45 := Try.sizeOf63
  v45 := Try.zeroValue63
  i45 := by kernel_rfl }

/-- binary.BigEndian.Uint32 at a slice of at least four bytes. -/
theorem be32_any (a : Addr) (n c : Nat) (zs : List Int) (w : World) (hn : 4 ≤ n) (hl : 4 ≤ zs.length) (hcell : ∀ i, i < zs.length → w.cell? (a.add i) = some (.int .u8 (zs.getD i 0))) (hw : ∀ z ∈ zs, (Lit.int .u8 z).wf = true) :
    Calls Try.prog 41 #[.agg #[], .slice (some a) n c] w fun e w' => e = .returned (.int .u32 (Lib.beZ (zs.take 4))) ∧ RowKit.Below w.heap.size w w' := Any.binary_BE_Uint32_z Try.laysBin39 a n c zs w hn hl hcell hw
end Go.Proofs.Qxb6612240a
