/-
  The shelf's contracts on strings.Builder at this dump: String by the kit's own laying in plain words; copyCheck and WriteByte laid by hand (their table of numbers typed out).
-/
import Derived.Shelf.Strings.Builder1
import Derived.Test.Qxb6605778aFmtProg
namespace Go.Proofs
open Go.Shelf
def Tryf.lays240_ren : Go.Shelf.Ren := ⟨fun | 240 => 38 | 276 => 41 | n => n, fun | 0 => 0 | 3 => 3 | 4 => 4 | 5 => 5 | 9 => 9 | 20 => 20 | 37 => 51 | 70 => 50 | 72 => 53 | 75 => 24 | 80 => 56 | 127 => 72 | 164 => 84 | n => n, fun | n => n⟩
theorem Tryf.lays240 : Go.Proofs.Lays.n240 Tryf.prog Tryf.lays240_ren := {
  mixed := by kernel_rfl
  f240 := Tryf.func38.trans (congrArg some (by kernel_rfl))
  f276 := Tryf.func41.trans (congrArg some (by kernel_rfl))
  t0 := Tryf.underlying0
  a0 := Tryf.isAgg0
  z0 := Tryf.sizeOf0
  v0 := Tryf.zeroValue0
  t4 := Tryf.underlying4
  a4 := Tryf.isAgg4
  z4 := Tryf.sizeOf4
  v4 := Tryf.zeroValue4
  t9 := Tryf.underlying9
  a9 := Tryf.isAgg9
  z9 := Tryf.sizeOf9
  v9 := Tryf.zeroValue9
  t20 := Tryf.underlying20
  a20 := Tryf.isAgg20
  z20 := Tryf.sizeOf20
  v20 := Tryf.zeroValue20
  t70 := Tryf.underlying50
  a70 := Tryf.isAgg50
  z70 := Tryf.sizeOf50
  v70 := Tryf.zeroValue50
  t72 := Tryf.underlying53
  a72 := Tryf.isAgg53
  z72 := Tryf.sizeOf53
  v72 := Tryf.zeroValue53
  t164 := Tryf.underlying84
  a164 := Tryf.isAgg84
  z164 := Tryf.sizeOf84
  v164 := Tryf.zeroValue84
}
theorem Tryf.Builder_X72_240 : Builder.X72 Tryf.prog Tryf.lays240_ren where
  sizeBuilder := by kernel_rfl
  liesBuilder := by kernel_rfl
def Tryf.lays167_ren : Go.Shelf.Ren := ⟨fun | 167 => 26 | 240 => 38 | 276 => 41 | n => n, fun | 0 => 0 | 3 => 3 | 4 => 4 | 5 => 5 | 9 => 9 | 20 => 20 | 37 => 51 | 70 => 50 | 72 => 53 | 75 => 24 | 80 => 56 | 127 => 72 | 164 => 84 | n => n, fun | n => n⟩
theorem Tryf.lays167 : Go.Proofs.Lays.n167 Tryf.prog Tryf.lays167_ren := {
  mixed := by kernel_rfl
  f167 := Tryf.func26.trans (congrArg some (by kernel_rfl))
  f240 := Tryf.func38.trans (congrArg some (by kernel_rfl))
  f276 := Tryf.func41.trans (congrArg some (by kernel_rfl))
  t0 := Tryf.underlying0
  a0 := Tryf.isAgg0
  z0 := Tryf.sizeOf0
  v0 := Tryf.zeroValue0
  t4 := Tryf.underlying4
  a4 := Tryf.isAgg4
  z4 := Tryf.sizeOf4
  v4 := Tryf.zeroValue4
  t5 := Tryf.underlying5
  a5 := Tryf.isAgg5
  z5 := Tryf.sizeOf5
  v5 := Tryf.zeroValue5
  t9 := Tryf.underlying9
  a9 := Tryf.isAgg9
  z9 := Tryf.sizeOf9
  v9 := Tryf.zeroValue9
  t20 := Tryf.underlying20
  a20 := Tryf.isAgg20
  z20 := Tryf.sizeOf20
  v20 := Tryf.zeroValue20
  t37 := Tryf.underlying51
  a37 := Tryf.isAgg51
  z37 := Tryf.sizeOf51
  v37 := Tryf.zeroValue51
  t70 := Tryf.underlying50
  a70 := Tryf.isAgg50
  z70 := Tryf.sizeOf50
  v70 := Tryf.zeroValue50
  t72 := Tryf.underlying53
  a72 := Tryf.isAgg53
  z72 := Tryf.sizeOf53
  v72 := Tryf.zeroValue53
  t75 := Tryf.underlying24
  a75 := Tryf.isAgg24
  z75 := Tryf.sizeOf24
  v75 := Tryf.zeroValue24
  t164 := Tryf.underlying84
  a164 := Tryf.isAgg84
  z164 := Tryf.sizeOf84
  v164 := Tryf.zeroValue84
}
theorem Tryf.Builder_Extra_167 : Builder.Extra Tryf.prog Tryf.lays167_ren where
  sizeBuilder := by kernel_rfl
  liesBuilder := by kernel_rfl
  t5 := Tryf.underlying5
  a5 := Tryf.isAgg5
  z5 := Tryf.sizeOf5
  v5 := Tryf.zeroValue5
  infoByte := by kernel_rfl
  cellsByte := by kernel_rfl
  sizeByte := by kernel_rfl
  neB5 := by decide
open Go.RowKit in
theorem Tryf.Builder_WriteByte (B b : Nat) (bs : List Value) (c : Int) (w : World) (h : Lib.IsBuilder 53 5 B b bs w) (hlen : bs.length + 1 ≤ 140737488355328) (hBw : B ≤ w.heap.size) :
    Calls Tryf.prog 26 #[.pointer (some ⟨b, 0, none⟩), .int .u8 c] w fun e w' => e = .returned .nilIface ∧ (Lib.BuilderAt 53 5 B b (.pointer (some ⟨b, 0, none⟩)) (bs ++ [.int .u8 c]) w' ∧ Below B w w') := Any.Builder_WriteByte Tryf.lays167 Tryf.Builder_Extra_167 B b bs c w h hlen hBw
def Tryf.lays169_ren : Go.Shelf.Ren := ⟨fun | 169 => 27 | n => n, fun | 70 => 50 | 9 => 9 | 0 => 0 | 72 => 53 | 37 => 51 | 127 => 72 | 3 => 3 | 5 => 5 | n => n, fun | n => n⟩
theorem Tryf.lays169 : Go.Proofs.Lays.n169 Tryf.prog Tryf.lays169_ren := {
  mixed := by kernel_rfl
  f169 := Tryf.func27.trans (congrArg some (by kernel_rfl))
  t0 := Tryf.underlying0
  a0 := Tryf.isAgg0
  z0 := Tryf.sizeOf0
  v0 := Tryf.zeroValue0
  t3 := Tryf.underlying3
  a3 := Tryf.isAgg3
  z3 := Tryf.sizeOf3
  v3 := Tryf.zeroValue3
  t9 := Tryf.underlying9
  a9 := Tryf.isAgg9
  z9 := Tryf.sizeOf9
  v9 := Tryf.zeroValue9
  t37 := Tryf.underlying51
  a37 := Tryf.isAgg51
  z37 := Tryf.sizeOf51
  v37 := Tryf.zeroValue51
  t70 := Tryf.underlying50
  a70 := Tryf.isAgg50
  z70 := Tryf.sizeOf50
  v70 := Tryf.zeroValue50
  t72 := Tryf.underlying53
  a72 := Tryf.isAgg53
  z72 := Tryf.sizeOf53
  v72 := Tryf.zeroValue53
  t127 := Tryf.underlying72
  a127 := Tryf.isAgg72
  z127 := Tryf.sizeOf72
  v127 := Tryf.zeroValue72 }
theorem Tryf.Builder_Extra_169 : Builder.Extra Tryf.prog Tryf.lays169_ren := {
  sizeBuilder := by kernel_rfl
  liesBuilder := by kernel_rfl
  t5 := Tryf.underlying5
  a5 := Tryf.isAgg5
  z5 := Tryf.sizeOf5
  v5 := Tryf.zeroValue5
  infoByte := by kernel_rfl
  cellsByte := by kernel_rfl
  sizeByte := by kernel_rfl
  neB5 := by decide }
open Go.RowKit in
theorem Tryf.Builder_String (B b : Nat) (l : List UInt8) (w : World) (h : Lib.IsBuilder 53 5 B b (Lib.byteCells l) w) (h0 : l ≠ []) :
    Calls Tryf.prog 27 #[.pointer (some ⟨b, 0, none⟩)] w fun e w' => e = .returned (.string ⟨l.toArray⟩) ∧ Below B w w' := Any.Builder_String Tryf.lays169 Tryf.Builder_Extra_169 B b l w h h0
open Go.RowKit in
theorem Tryf.Builder_String_empty (B b : Nat) (w : World) (h : Lib.IsBuilder 53 5 B b [] w) (hBw : B ≤ w.heap.size) :
    Calls Tryf.prog 27 #[.pointer (some ⟨b, 0, none⟩)] w fun e w' => e = .returned (.string ⟨#[]⟩) ∧ Below B w w' := Any.Builder_String_empty Tryf.lays169 Tryf.Builder_Extra_169 B b w h hBw
open Go.RowKit in
theorem Tryf.Builder_String_any (B b : Nat) (l : List UInt8) (w : World) (h : Lib.IsBuilder 53 5 B b (Lib.byteCells l) w) (hBw : B ≤ w.heap.size) :
    Calls Tryf.prog 27 #[.pointer (some ⟨b, 0, none⟩)] w fun e w' => e = .returned (.string ⟨l.toArray⟩) ∧ Below B w w' := Any.Builder_String_any Tryf.lays169 Tryf.Builder_Extra_169 B b l w h hBw
end Go.Proofs
