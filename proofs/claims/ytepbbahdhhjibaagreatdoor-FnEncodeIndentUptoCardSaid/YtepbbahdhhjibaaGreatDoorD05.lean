/- own text -/
import Derived.Shelf.Spec.DecodeRune
import Derived.Shelf.Unicode.DecodeAny
import Derived.Shelf.Unicode.PredsGn
import Derived.Test.YtepbbahdhhjibaaGreatDoorProg
namespace Go.Proofs
set_option linter.unusedSimpArgs false
set_option linter.unusedVariables false
set_option maxHeartbeats 200000
set_option maxRecDepth 512
open Go.Shelf
def Tryz.lays7n32_ren : Go.Shelf.Ren := ⟨fun | 32 => 100 | 49 => 146 | n => n, fun | 30 => 56 | 21 => 21 | 3 => 3 | 0 => 0 | 5 => 5 | 4 => 4 | 33 => 188 | 66 => 276 | 25 => 169 | 69 => 279 | 68 => 278 | n => n, fun | 2 => 3 | 3 => 4 | n => n⟩
theorem Tryz.lays7n32 : Go.Proofs.Lays7.n32 Tryz.prog Tryz.lays7n32_ren := {
 mixed := by kernel_rfl
 f32 := Tryz.func100.trans (congrArg some (by kernel_rfl))
 f49 := Tryz.func146.trans (congrArg some (by kernel_rfl))
 t0 := Tryz.underlying0
 a0 := Tryz.isAgg0
 z0 := Tryz.sizeOf0
 v0 := Tryz.zeroValue0
 i0 := by kernel_rfl
 t3 := Tryz.underlying3
 a3 := Tryz.isAgg3
 z3 := Tryz.sizeOf3
 v3 := Tryz.zeroValue3
 i3 := by kernel_rfl
 t4 := Tryz.underlying4
 a4 := Tryz.isAgg4
 z4 := Tryz.sizeOf4
 v4 := Tryz.zeroValue4
 i4 := by kernel_rfl
 t5 := Tryz.underlying5
 a5 := Tryz.isAgg5
 z5 := Tryz.sizeOf5
 v5 := Tryz.zeroValue5
 i5 := by kernel_rfl
 t21 := Tryz.underlying21
 a21 := Tryz.isAgg21
 z21 := Tryz.sizeOf21
 v21 := Tryz.zeroValue21
 i21 := by kernel_rfl
 t25 := Tryz.underlying169
 a25 := Tryz.isAgg169
 z25 := Tryz.sizeOf169
 v25 := Tryz.zeroValue169
 i25 := by kernel_rfl
 t30 := Tryz.underlying56
 a30 := Tryz.isAgg56
 z30 := Tryz.sizeOf56
 v30 := Tryz.zeroValue56
 i30 := by kernel_rfl
 t33 := Tryz.underlying188
 a33 := Tryz.isAgg188
 z33 := Tryz.sizeOf188
 v33 := Tryz.zeroValue188
 i33 := by kernel_rfl
 t66 := Tryz.underlying276
 a66 := Tryz.isAgg276
 z66 := Tryz.sizeOf276
 t68 := Tryz.underlying278
 a68 := Tryz.isAgg278
 z68 := Tryz.sizeOf278
 v68 := Tryz.zeroValue278
 i68 := by kernel_rfl
 t69 := Tryz.underlying279
 a69 := Tryz.isAgg279
 z69 := Tryz.sizeOf279
 v69 := Tryz.zeroValue279
 i69 := by kernel_rfl
 g2 := by kernel_rfl
 g3 := by kernel_rfl }
def Tryz.lays197_ren : Go.Shelf.Ren := ⟨fun | 197 => 105 | 260 => 148 | n => n, fun | 9 => 9 | 21 => 21 | 3 => 3 | 4 => 4 | 5 => 5 | 105 => 188 | 119 => 276 | 0 => 0 | 46 => 169 | 139 => 279 | 138 => 278 | n => n, fun | 3 => 3 | 4 => 4 | n => n⟩
theorem Tryz.lays197 : Go.Proofs.Lays.n197 Tryz.prog Tryz.lays197_ren := {
 mixed := by kernel_rfl
 f197 := Tryz.func105.trans (congrArg some (by kernel_rfl))
 f260 := Tryz.func148.trans (congrArg some (by kernel_rfl))
 t0 := Tryz.underlying0
 a0 := Tryz.isAgg0
 z0 := Tryz.sizeOf0
 v0 := Tryz.zeroValue0
 t3 := Tryz.underlying3
 a3 := Tryz.isAgg3
 z3 := Tryz.sizeOf3
 v3 := Tryz.zeroValue3
 t4 := Tryz.underlying4
 a4 := Tryz.isAgg4
 z4 := Tryz.sizeOf4
 v4 := Tryz.zeroValue4
 t5 := Tryz.underlying5
 a5 := Tryz.isAgg5
 z5 := Tryz.sizeOf5
 v5 := Tryz.zeroValue5
 t9 := Tryz.underlying9
 a9 := Tryz.isAgg9
 z9 := Tryz.sizeOf9
 v9 := Tryz.zeroValue9
 t21 := Tryz.underlying21
 a21 := Tryz.isAgg21
 z21 := Tryz.sizeOf21
 v21 := Tryz.zeroValue21
 t46 := Tryz.underlying169
 a46 := Tryz.isAgg169
 z46 := Tryz.sizeOf169
 v46 := Tryz.zeroValue169
 t105 := Tryz.underlying188
 a105 := Tryz.isAgg188
 z105 := Tryz.sizeOf188
 v105 := Tryz.zeroValue188
 t119 := Tryz.underlying276
 a119 := Tryz.isAgg276
 z119 := Tryz.sizeOf276
 t138 := Tryz.underlying278
 a138 := Tryz.isAgg278
 z138 := Tryz.sizeOf278
 v138 := Tryz.zeroValue278
 t139 := Tryz.underlying279
 a139 := Tryz.isAgg279
 z139 := Tryz.sizeOf279
 v139 := Tryz.zeroValue279
 g3 := by kernel_rfl
 g4 := by kernel_rfl }
def Tryz.laysIs_ren : Go.Shelf.Ren := ⟨fun | 14 => 106 | 25 => 149 | 26 => 150 | n => n, fun | 22 => 199 | 21 => 21 | 4 => 4 | 0 => 0 | 31 => 249 | 28 => 246 | 3 => 3 | 32 => 250 | 35 => 253 | 33 => 251 | 29 => 247 | 38 => 256 | 41 => 280 | 42 => 169 | 43 => 281 | n => n, fun | n => n⟩
theorem Tryz.laysIs : Go.Proofs.LaysGn.n14 Tryz.prog Tryz.laysIs_ren := {
 mixed := by kernel_rfl
 f14 := Tryz.func106.trans (congrArg some (by kernel_rfl))
 f25 := Tryz.func149.trans (congrArg some (by kernel_rfl))
 f26 := Tryz.func150.trans (congrArg some (by kernel_rfl))
 t0 := Tryz.underlying0
 a0 := Tryz.isAgg0
 z0 := Tryz.sizeOf0
 v0 := Tryz.zeroValue0
 i0 := by kernel_rfl
 t3 := Tryz.underlying3
 a3 := Tryz.isAgg3
 z3 := Tryz.sizeOf3
 v3 := Tryz.zeroValue3
 i3 := by kernel_rfl
 t4 := Tryz.underlying4
 a4 := Tryz.isAgg4
 z4 := Tryz.sizeOf4
 v4 := Tryz.zeroValue4
 i4 := by kernel_rfl
 t21 := Tryz.underlying21
 a21 := Tryz.isAgg21
 z21 := Tryz.sizeOf21
 v21 := Tryz.zeroValue21
 i21 := by kernel_rfl
 t22 := Tryz.underlying199
 a22 := Tryz.isAgg199
 z22 := Tryz.sizeOf199
 v22 := Tryz.zeroValue199
 i22 := by kernel_rfl
 t28 := Tryz.underlying246
 a28 := Tryz.isAgg246
 z28 := Tryz.sizeOf246
 v28 := Tryz.zeroValue246
 i28 := by kernel_rfl
 t29 := Tryz.underlying247
 a29 := Tryz.isAgg247
 z29 := Tryz.sizeOf247
 v29 := Tryz.zeroValue247
 i29 := by kernel_rfl
 t31 := Tryz.underlying249
 a31 := Tryz.isAgg249
 z31 := Tryz.sizeOf249
 v31 := Tryz.zeroValue249
 i31 := by kernel_rfl
 t32 := Tryz.underlying250
 a32 := Tryz.isAgg250
 z32 := Tryz.sizeOf250
 v32 := Tryz.zeroValue250
 i32 := by kernel_rfl
 t33 := Tryz.underlying251
 a33 := Tryz.isAgg251
 z33 := Tryz.sizeOf251
 v33 := Tryz.zeroValue251
 i33 := by kernel_rfl
 t35 := Tryz.underlying253
 a35 := Tryz.isAgg253
 z35 := Tryz.sizeOf253
 v35 := Tryz.zeroValue253
 i35 := by kernel_rfl
 t38 := Tryz.underlying256
 a38 := Tryz.isAgg256
 z38 := Tryz.sizeOf256
 v38 := Tryz.zeroValue256
 i38 := by kernel_rfl
 t41 := Tryz.underlying280
 a41 := Tryz.isAgg280
 z41 := Tryz.sizeOf280
 v41 := Tryz.zeroValue280
 i41 := by kernel_rfl
 t42 := Tryz.underlying169
 a42 := Tryz.isAgg169
 z42 := Tryz.sizeOf169
 v42 := Tryz.zeroValue169
 i42 := by kernel_rfl
 t43 := Tryz.underlying281
 a43 := Tryz.isAgg281
 z43 := Tryz.sizeOf281
 v43 := Tryz.zeroValue281
 i43 := by kernel_rfl }
open Go.RowKit Go.Lib in
theorem Tryz.utf8_DecodeRune (s : ByteArray) (b off cap : Nat) (w : World) (hT : Lib.Utf8Tabs 3 4 w)
  (hp : ∀ j, j < s.size -> w.cell? ⟨b, off + j, none⟩ = some (.int .u8 (s.get! j).toNat)) :
  Calls Tryz.prog 100 #[.slice (some ⟨b, off, none⟩) s.size cap] w fun e w' => e = .returned (.tuple #[.int .i32 (Lib.decodeGo s).1, .int .i64 (Lib.decodeGo s).2]) /\ Below w.heap.size w w' := Any7.utf8_DecodeRune Tryz.lays7n32 s b off cap w hT hp
open Go.RowKit Go.Lib in
theorem Tryz.utf8_DecodeRuneInString (s : ByteArray) (w : World) (hT : Lib.Utf8Tabs 3 4 w) :
  Calls Tryz.prog 105 #[.string s] w fun e w' => e = .returned (.tuple #[.int .i32 (Lib.decodeGo s).1, .int .i64 (Lib.decodeGo s).2]) /\ Below w.heap.size w w' := Any.utf8_DecodeRuneInString Tryz.lays197 s w hT
open Go.RowKit Go.Lib in
theorem Tryz.unicode_Is (Tb oT : Nat) (T : RTab) (r : Int) (w : World) (hlo : -2147483648 <= r) (hhi : r <= 2147483647) (hA : RTabAt Tb oT T w) (hok : RTabOk T) :
  Calls Tryz.prog 106 #[.pointer (some ⟨Tb, oT, none⟩), .int .i32 r] w fun e w' => e = .returned (.bool (isGo T r)) /\ Below w.heap.size w w' := Any.unicode_Is_any Tryz.laysIs Tb oT T r w hlo hhi hA hok
end Go.Proofs
