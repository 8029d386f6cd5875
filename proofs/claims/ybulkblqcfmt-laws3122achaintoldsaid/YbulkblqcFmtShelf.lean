/-
  THE SHELF's CONTRACTS THAT THIS SEAT USES, AT ITS TRANSLATION, IN PLAIN WORDS (written by the kit's lay-plain tool for this program, cut to what is used): (*strings.Builder).String, binary.BigEndian.Uint16.
-/
import Derived.Shelf.Strings.Builder1
import Derived.Shelf.Bin.BEUint16
import Derived.Shelf.Bin.ReadersZ
import Derived.Test.YbulkblqcFmtProg
namespace Go.Proofs
open Go.Shelf
def Ybaf.lays169_ren : Go.Shelf.Ren := ⟨fun | 169 => 18 | n => n, fun | 70 => 65 | 9 => 9 | 0 => 0 | 72 => 67 | 37 => 22 | 127 => 84 | 3 => 3 | 5 => 5 | n => n, fun | n => n⟩
theorem Ybaf.lays169 : Go.Proofs.Lays.n169 Ybaf.prog Ybaf.lays169_ren := {
  mixed := by kernel_rfl
  f169 := Ybaf.func18.trans (congrArg some (by kernel_rfl))
  t0 := Ybaf.underlying0
  a0 := Ybaf.isAgg0
  z0 := Ybaf.sizeOf0
  v0 := Ybaf.zeroValue0
  t3 := Ybaf.underlying3
  a3 := Ybaf.isAgg3
  z3 := Ybaf.sizeOf3
  v3 := Ybaf.zeroValue3
  t9 := Ybaf.underlying9
  a9 := Ybaf.isAgg9
  z9 := Ybaf.sizeOf9
  v9 := Ybaf.zeroValue9
  t37 := Ybaf.underlying22
  a37 := Ybaf.isAgg22
  z37 := Ybaf.sizeOf22
  v37 := Ybaf.zeroValue22
  t70 := Ybaf.underlying65
  a70 := Ybaf.isAgg65
  z70 := Ybaf.sizeOf65
  v70 := Ybaf.zeroValue65
  t72 := Ybaf.underlying67
  a72 := Ybaf.isAgg67
  z72 := Ybaf.sizeOf67
  v72 := Ybaf.zeroValue67
  t127 := Ybaf.underlying84
  a127 := Ybaf.isAgg84
  z127 := Ybaf.sizeOf84
  v127 := Ybaf.zeroValue84 }
theorem Ybaf.Builder_Extra_169 : Builder.Extra Ybaf.prog Ybaf.lays169_ren := {
  sizeBuilder := by kernel_rfl
  liesBuilder := by kernel_rfl
  t5 := Ybaf.underlying5
  a5 := Ybaf.isAgg5
  z5 := Ybaf.sizeOf5
  v5 := Ybaf.zeroValue5
  infoByte := by kernel_rfl
  cellsByte := by kernel_rfl
  sizeByte := by kernel_rfl
  neB5 := by decide }
open Go.RowKit in
/-- (*strings.Builder).String: the accumulated string, whatever the builder holds. -/
theorem Ybaf.Builder_String_any (B b : Nat) (l : List UInt8) (w : World) (h : Lib.IsBuilder 67 5 B b (Lib.byteCells l) w) (hBw : B ≤ w.heap.size) :
    Calls Ybaf.prog 18 #[.pointer (some ⟨b, 0, none⟩)] w fun e w' => e = .returned (.string ⟨l.toArray⟩) ∧ Below B w w' := Any.Builder_String_any Ybaf.lays169 Ybaf.Builder_Extra_169 B b l w h hBw
def Ybaf.laysBin36_ren : Go.Shelf.Ren := ⟨fun | 36 => 19 | n => n, fun | 37 => 74 | 22 => 22 | 23 => 72 | 0 => 0 | 5 => 5 | 45 => 27 | n => n, fun | n => n⟩
theorem Ybaf.laysBin36 : Go.Proofs.LaysBin.n36 Ybaf.prog Ybaf.laysBin36_ren := {
  mixed := by kernel_rfl
  f36 := Ybaf.func19.trans (congrArg some (by kernel_rfl))
  t0 := Ybaf.underlying0
  a0 := Ybaf.isAgg0
  z0 := Ybaf.sizeOf0
  v0 := Ybaf.zeroValue0
  i0 := by kernel_rfl
  t5 := Ybaf.underlying5
  a5 := Ybaf.isAgg5
  z5 := Ybaf.sizeOf5
  v5 := Ybaf.zeroValue5
  i5 := by kernel_rfl
  t22 := Ybaf.underlying22
  a22 := Ybaf.isAgg22
  z22 := Ybaf.sizeOf22
  v22 := Ybaf.zeroValue22
  i22 := by kernel_rfl
  t23 := Ybaf.underlying72
  a23 := Ybaf.isAgg72
  z23 := Ybaf.sizeOf72
  v23 := Ybaf.zeroValue72
  i23 := by kernel_rfl
  t37 := Ybaf.underlying74
  a37 := Ybaf.isAgg74
  z37 := Ybaf.sizeOf74
  v37 := Ybaf.zeroValue74
  i37 := by kernel_rfl
  t45 := Ybaf.underlying27
  a45 := Ybaf.isAgg27
  z45 := Ybaf.sizeOf27
  v45 := Ybaf.zeroValue27
  i45 := by kernel_rfl }
open Go.RowKit in
theorem Ybaf.binary_BE_Uint16 (g o n c : Nat) (b0 b1 : UInt8) (w : World) (hn : 2 ≤ n) (c0 : w.cell? ⟨g, o, none⟩ = some (.int .u8 b0.toNat)) (c1 : w.cell? ⟨g, o + 1, none⟩ = some (.int .u8 b1.toNat)) :
    Calls Ybaf.prog 19 #[.agg #[], .slice (some ⟨g, o, none⟩) n c] w fun e w' => e = .returned (.int .u16 (Lib.beNat [b0, b1])) ∧ Below w.heap.size w w' := Any.binary_BE_Uint16 Ybaf.laysBin36 g o n c b0 b1 w hn c0 c1
open Go.RowKit in
theorem Ybaf.binary_BE_Uint16_z (a : Addr) (n c : Nat) (zs : List Int) (w : World) (hn : 2 ≤ n) (hl : 2 ≤ zs.length) (hcell : ∀ i, i < zs.length → w.cell? (a.add i) = some (.int .u8 (zs.getD i 0))) (hw : ∀ z ∈ zs, (Lit.int .u8 z).wf = true) :
    Calls Ybaf.prog 19 #[.agg #[], .slice (some a) n c] w fun e w' => e = .returned (.int .u16 (Lib.beZ (zs.take 2))) ∧ Below w.heap.size w w' := Any.binary_BE_Uint16_z Ybaf.laysBin36 a n c zs w hn hl hcell hw
end Go.Proofs
