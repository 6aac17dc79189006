/-
  The library's contract of utf8.DecodeRune, laid at this program (the laying printed by the kit's lay-plain.mjs, for the door seat's dump).
-/
import Derived.Test.YtohjnegllfdemaaDoorUtf2
import Derived.Shelf.Lays7
import Derived.Shelf.Spec.DecodeRune
import Derived.Ground.Names7Prog
namespace Go.Proofs
open Go.Shelf
def Tryd.lays32_ren : Go.Shelf.Ren := ⟨fun | 32 => 86 | 49 => 101 | n => n, fun | 30 => 80 | 21 => 21 | 3 => 3 | 0 => 0 | 5 => 5 | 4 => 4 | 33 => 104 | 66 => 109 | 25 => 101 | 69 => 112 | 68 => 111 | n => n, fun | 2 => 0 | 3 => 1 | n => n⟩
theorem Tryd.lays32 : Go.Proofs.Lays7.n32 Tryd.prog Tryd.lays32_ren := {
  mixed := by kernel_rfl
  f32 := Tryd.func86.trans (congrArg some (by kernel_rfl))
  f49 := Tryd.func101.trans (congrArg some (by kernel_rfl))
  t0 := Tryd.underlying0
  a0 := Tryd.isAgg0
  z0 := Tryd.sizeOf0
  v0 := Tryd.zeroValue0
  i0 := by kernel_rfl
  t3 := Tryd.underlying3
  a3 := Tryd.isAgg3
  z3 := Tryd.sizeOf3
  v3 := Tryd.zeroValue3
  i3 := by kernel_rfl
  t4 := Tryd.underlying4
  a4 := Tryd.isAgg4
  z4 := Tryd.sizeOf4
  v4 := Tryd.zeroValue4
  i4 := by kernel_rfl
  t5 := Tryd.underlying5
  a5 := Tryd.isAgg5
  z5 := Tryd.sizeOf5
  v5 := Tryd.zeroValue5
  i5 := by kernel_rfl
  t21 := Tryd.underlying21
  a21 := Tryd.isAgg21
  z21 := Tryd.sizeOf21
  v21 := Tryd.zeroValue21
  i21 := by kernel_rfl
  t25 := Tryd.underlying101
  a25 := Tryd.isAgg101
  z25 := Tryd.sizeOf101
  v25 := Tryd.zeroValue101
  i25 := by kernel_rfl
  t30 := Tryd.underlying80
  a30 := Tryd.isAgg80
  z30 := Tryd.sizeOf80
  v30 := Tryd.zeroValue80
  i30 := by kernel_rfl
  t33 := Tryd.underlying104
  a33 := Tryd.isAgg104
  z33 := Tryd.sizeOf104
  v33 := Tryd.zeroValue104
  i33 := by kernel_rfl
  t66 := Tryd.underlying109
  a66 := Tryd.isAgg109
  z66 := Tryd.sizeOf109
  t68 := Tryd.underlying111
  a68 := Tryd.isAgg111
  z68 := Tryd.sizeOf111
  v68 := Tryd.zeroValue111
  i68 := by kernel_rfl
  t69 := Tryd.underlying112
  a69 := Tryd.isAgg112
  z69 := Tryd.sizeOf112
  v69 := Tryd.zeroValue112
  i69 := by kernel_rfl
  g2 := by kernel_rfl
  g3 := by kernel_rfl }

theorem YtohjnegllfdemaaDoor.decodeRune_any (s : ByteArray) (b off cap : Nat) (w : World) (hT : Lib.Utf8Tabs 0 1 w) (hp : ∀ j, j < s.size → w.cell? ⟨b, off + j, none⟩ = some (.int .u8 (s.get! j).toNat)) :
    Calls Tryd.prog 86 #[.slice (some ⟨b, off, none⟩) s.size cap] w fun e w' => e = .returned (.tuple #[.int .i32 (Lib.decodeGo s).1, .int .i64 (Lib.decodeGo s).2]) ∧ RowKit.Below w.heap.size w w' :=
  Any7.utf8_DecodeRune Tryd.lays32 s b off cap w hT hp
end Go.Proofs
