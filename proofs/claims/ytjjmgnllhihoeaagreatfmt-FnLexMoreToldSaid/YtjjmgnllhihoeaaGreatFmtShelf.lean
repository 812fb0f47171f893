/- The library's contracts that this proof uses, at this seat's own numbers: each is one application of a contract of the kit's shelf. -/
import Derived.Shelf.Small.Utf8
import Derived.Shelf.Utf8.AppendRune
import Derived.Shelf.Utf8.AppendRunePlain
import Derived.Shelf.LaysM
import Derived.Shelf.Bytes.Len
import Derived.Shelf.Bytes.TryGrow
import Derived.Shelf.Bytes.GrowSliceCatch
import Derived.Shelf.Bytes.GrowSlice
import Derived.Shelf.Bytes.String
import Derived.Shelf.Bytes.Reset
import Derived.Shelf.Bytes.GrowRow0Kept
import Derived.Shelf.Bytes.GrowRowKept
import Derived.Shelf.Bytes.GrowNilKept
import Derived.Shelf.Bytes.GrowKept
import Derived.Shelf.Bytes.WriteByteKept
import Derived.Shelf.Bytes.ResetKept
import Derived.Shelf.Bytes.BufferK
import Derived.Shelf.Bytes.GrowRow0Own
import Derived.Shelf.Bytes.GrowRowOwn
import Derived.Shelf.Bytes.GrowNilOwn
import Derived.Shelf.Bytes.GrowOwn
import Derived.Ground.MzProg
import Derived.Shelf.Wr.WriteRuneAscii
import Derived.Shelf.Wr.WriteRune
import Derived.Shelf.Strings.Prefix
import Derived.Shelf.Unicode.Decode
import Derived.Shelf.Unicode.DecodeSlow
import Derived.Shelf.Unicode.DecodeAny
import Derived.Test.YtjjmgnllhihoeaaGreatFmtProg
set_option linter.unusedSimpArgs false
set_option linter.unusedVariables false
namespace Go.Proofs
open Go.Shelf
def Tryz.laysM181_ren : Go.Shelf.Ren := ⟨fun | 181 => 77 | n => n, fun | 130 => 114 | 3 => 3 | 0 => 0 | 93 => 89 | 37 => 79 | 91 => 87 | 5 => 5 | n => n, fun | n => n⟩
theorem Tryz.laysM181 : Go.Proofs.LaysM.n181 Tryz.prog Tryz.laysM181_ren := {
  mixed := by kernel_rfl
  f181 := Tryz.func77.trans (congrArg some (by kernel_rfl))
  t0 := Tryz.underlying0
  a0 := Tryz.isAgg0
  z0 := Tryz.sizeOf0
  v0 := Tryz.zeroValue0
  t3 := Tryz.underlying3
  a3 := Tryz.isAgg3
  z3 := Tryz.sizeOf3
  v3 := Tryz.zeroValue3
  t37 := Tryz.underlying79
  a37 := Tryz.isAgg79
  z37 := Tryz.sizeOf79
  v37 := Tryz.zeroValue79
  t93 := Tryz.underlying89
  a93 := Tryz.isAgg89
  z93 := Tryz.sizeOf89
  v93 := Tryz.zeroValue89
  t130 := Tryz.underlying114
  a130 := Tryz.isAgg114
  z130 := Tryz.sizeOf114
  v130 := Tryz.zeroValue114
  t5 := Tryz.underlying5
  a5 := Tryz.isAgg5
  z5 := Tryz.sizeOf5
  v5 := Tryz.zeroValue5
  t91 := Tryz.underlying87
  a91 := Tryz.isAgg87
  z91 := Tryz.sizeOf87
  v91 := Tryz.zeroValue87
  i0 := by kernel_rfl
  i3 := by kernel_rfl
  i5 := by kernel_rfl
  i37 := by kernel_rfl
  i91 := by kernel_rfl
  i93 := by kernel_rfl
  i130 := by kernel_rfl }
open Go.RowKit in
theorem Tryz.Buffer_Len (B b : Nat) (bs : List Value) (w : World) (h : Lib.IsBuffer 89 5 B b bs w) :
    Calls Tryz.prog 77 #[.pointer (some ⟨b, 0, none⟩)] w fun e w' => e = .returned (.int .i64 bs.length) ∧ ∃ n, w' = w.drewN n := Any.Buffer_Len Tryz.laysM181 B b bs w h
def Tryz.laysM182_ren : Go.Shelf.Ren := ⟨fun | 182 => 52 | n => n, fun | 130 => 114 | 9 => 9 | 4 => 4 | 0 => 0 | 93 => 89 | 37 => 79 | 3 => 3 | 91 => 87 | 5 => 5 | n => n, fun | n => n⟩
theorem Tryz.laysM182 : Go.Proofs.LaysM.n182 Tryz.prog Tryz.laysM182_ren := {
  mixed := by kernel_rfl
  f182 := Tryz.func52.trans (congrArg some (by kernel_rfl))
  t0 := Tryz.underlying0
  a0 := Tryz.isAgg0
  z0 := Tryz.sizeOf0
  v0 := Tryz.zeroValue0
  t3 := Tryz.underlying3
  a3 := Tryz.isAgg3
  z3 := Tryz.sizeOf3
  v3 := Tryz.zeroValue3
  t4 := Tryz.underlying4
  a4 := Tryz.isAgg4
  z4 := Tryz.sizeOf4
  v4 := Tryz.zeroValue4
  t9 := Tryz.underlying9
  a9 := Tryz.isAgg9
  z9 := Tryz.sizeOf9
  v9 := Tryz.zeroValue9
  t37 := Tryz.underlying79
  a37 := Tryz.isAgg79
  z37 := Tryz.sizeOf79
  v37 := Tryz.zeroValue79
  t93 := Tryz.underlying89
  a93 := Tryz.isAgg89
  z93 := Tryz.sizeOf89
  v93 := Tryz.zeroValue89
  t130 := Tryz.underlying114
  a130 := Tryz.isAgg114
  z130 := Tryz.sizeOf114
  v130 := Tryz.zeroValue114
  t5 := Tryz.underlying5
  a5 := Tryz.isAgg5
  z5 := Tryz.sizeOf5
  v5 := Tryz.zeroValue5
  t91 := Tryz.underlying87
  a91 := Tryz.isAgg87
  z91 := Tryz.sizeOf87
  v91 := Tryz.zeroValue87
  i0 := by kernel_rfl
  i3 := by kernel_rfl
  i4 := by kernel_rfl
  i5 := by kernel_rfl
  i9 := by kernel_rfl
  i37 := by kernel_rfl
  i91 := by kernel_rfl
  i93 := by kernel_rfl
  i130 := by kernel_rfl }
open Go.RowKit in
theorem Tryz.Buffer_String (B b : Nat) (l : List UInt8) (w : World) (h : Lib.IsBuffer 89 5 B b (Lib.byteCells l) w) :
    Calls Tryz.prog 52 #[.pointer (some ⟨b, 0, none⟩)] w fun e w' => e = .returned (.string ⟨l.toArray⟩) ∧ ∃ n, w' = w.drewN n := Any.Buffer_String Tryz.laysM182 B b l w h
def Tryz.laysM184_ren : Go.Shelf.Ren := ⟨fun | 184 => 69 | n => n, fun | 130 => 114 | 0 => 0 | 93 => 89 | 37 => 79 | 3 => 3 | 91 => 87 | 5 => 5 | n => n, fun | n => n⟩
theorem Tryz.laysM184 : Go.Proofs.LaysM.n184 Tryz.prog Tryz.laysM184_ren := {
  mixed := by kernel_rfl
  f184 := Tryz.func69.trans (congrArg some (by kernel_rfl))
  t0 := Tryz.underlying0
  a0 := Tryz.isAgg0
  z0 := Tryz.sizeOf0
  v0 := Tryz.zeroValue0
  t3 := Tryz.underlying3
  a3 := Tryz.isAgg3
  z3 := Tryz.sizeOf3
  v3 := Tryz.zeroValue3
  t37 := Tryz.underlying79
  a37 := Tryz.isAgg79
  z37 := Tryz.sizeOf79
  v37 := Tryz.zeroValue79
  t91 := Tryz.underlying87
  a91 := Tryz.isAgg87
  z91 := Tryz.sizeOf87
  v91 := Tryz.zeroValue87
  t93 := Tryz.underlying89
  a93 := Tryz.isAgg89
  z93 := Tryz.sizeOf89
  v93 := Tryz.zeroValue89
  t130 := Tryz.underlying114
  a130 := Tryz.isAgg114
  z130 := Tryz.sizeOf114
  v130 := Tryz.zeroValue114
  t5 := Tryz.underlying5
  a5 := Tryz.isAgg5
  z5 := Tryz.sizeOf5
  v5 := Tryz.zeroValue5
  i0 := by kernel_rfl
  i3 := by kernel_rfl
  i5 := by kernel_rfl
  i37 := by kernel_rfl
  i91 := by kernel_rfl
  i93 := by kernel_rfl
  i130 := by kernel_rfl }
open Go.RowKit in
theorem Tryz.Buffer_Reset_k (B b : Nat) (bs : List Value) (w : World) (h : Lib.IsBuffer 89 5 B b bs w) :
    Calls Tryz.prog 69 #[.pointer (some ⟨b, 0, none⟩)] w fun e w' => e = .returned (.tuple #[]) ∧ Lib.IsBuffer 89 5 B b [] w' ∧ Below B w w' ∧ Lib.OthersKept 5 (some b) w w' := Any.Buffer_Reset_k Tryz.laysM184 B b bs w h
def Tryz.laysWr5_ren : Go.Shelf.Ren := ⟨fun | 5 => 51 | 7 => 72 | 8 => 73 | 9 => 74 | 10 => 75 | 11 => 77 | 12 => 69 | 13 => 85 | 14 => 86 | 15 => 90 | n => n, fun | 34 => 114 | 21 => 21 | 3 => 3 | 28 => 35 | 35 => 115 | 4 => 4 | 5 => 5 | 0 => 0 | 26 => 89 | 24 => 87 | 37 => 28 | 22 => 79 | 43 => 111 | 20 => 20 | 31 => 93 | 9 => 9 | n => n, fun | 0 => 2 | n => n⟩
theorem Tryz.laysWr5 : Go.Proofs.LaysWr.n5 Tryz.prog Tryz.laysWr5_ren := {
  mixed := by kernel_rfl
  f5 := Tryz.func51.trans (congrArg some (by kernel_rfl))
  f7 := Tryz.func72.trans (congrArg some (by kernel_rfl))
  f8 := Tryz.func73.trans (congrArg some (by kernel_rfl))
  f9 := Tryz.func74.trans (congrArg some (by kernel_rfl))
  f10 := Tryz.func75.trans (congrArg some (by kernel_rfl))
  f11 := Tryz.func77.trans (congrArg some (by kernel_rfl))
  f12 := Tryz.func69.trans (congrArg some (by kernel_rfl))
  f13 := Tryz.func85.trans (congrArg some (by kernel_rfl))
  f14 := Tryz.func86.trans (congrArg some (by kernel_rfl))
  f15 := Tryz.func90.trans (congrArg some (by kernel_rfl))
  t0 := Tryz.underlying0
  a0 := Tryz.isAgg0
  z0 := Tryz.sizeOf0
  v0 := Tryz.zeroValue0
  i0 := by kernel_rfl
  t3 := Tryz.underlying3
  a3 := Tryz.isAgg3
  z3 := Tryz.sizeOf3
  v3 := Tryz.zeroValue3
  i3 := by kernel_rfl
  t4 := Tryz.underlying4
  a4 := Tryz.isAgg4
  z4 := Tryz.sizeOf4
  v4 := Tryz.zeroValue4
  i4 := by kernel_rfl
  t5 := Tryz.underlying5
  a5 := Tryz.isAgg5
  z5 := Tryz.sizeOf5
  v5 := Tryz.zeroValue5
  i5 := by kernel_rfl
  t9 := Tryz.underlying9
  a9 := Tryz.isAgg9
  z9 := Tryz.sizeOf9
  v9 := Tryz.zeroValue9
  i9 := by kernel_rfl
  t20 := Tryz.underlying20
  a20 := Tryz.isAgg20
  z20 := Tryz.sizeOf20
  v20 := Tryz.zeroValue20
  i20 := by kernel_rfl
  t21 := Tryz.underlying21
  a21 := Tryz.isAgg21
  z21 := Tryz.sizeOf21
  v21 := Tryz.zeroValue21
  i21 := by kernel_rfl
  t22 := Tryz.underlying79
  a22 := Tryz.isAgg79
  z22 := Tryz.sizeOf79
  v22 := Tryz.zeroValue79
  i22 := by kernel_rfl
  t24 := Tryz.underlying87
  a24 := Tryz.isAgg87
  z24 := Tryz.sizeOf87
  v24 := Tryz.zeroValue87
  i24 := by kernel_rfl
  t26 := Tryz.underlying89
  a26 := Tryz.isAgg89
  z26 := Tryz.sizeOf89
  v26 := Tryz.zeroValue89
  i26 := by kernel_rfl
  t28 := Tryz.underlying35
  a28 := Tryz.isAgg35
  z28 := Tryz.sizeOf35
  v28 := Tryz.zeroValue35
  i28 := by kernel_rfl
  t31 := Tryz.underlying93
  a31 := Tryz.isAgg93
  z31 := Tryz.sizeOf93
  v31 := Tryz.zeroValue93
  i31 := by kernel_rfl
  t34 := Tryz.underlying114
  a34 := Tryz.isAgg114
  z34 := Tryz.sizeOf114
  v34 := Tryz.zeroValue114
  i34 := by kernel_rfl
  t35 := Tryz.underlying115
  a35 := Tryz.isAgg115
  z35 := Tryz.sizeOf115
  v35 := Tryz.zeroValue115
  i35 := by kernel_rfl
  t37 := Tryz.underlying28
  a37 := Tryz.isAgg28
  z37 := Tryz.sizeOf28
  v37 := Tryz.zeroValue28
  i37 := by kernel_rfl
  t43 := Tryz.underlying111
  a43 := Tryz.isAgg111
  z43 := Tryz.sizeOf111
  v43 := Tryz.zeroValue111
  i43 := by kernel_rfl
  g0 := by kernel_rfl
  m0 := by kernel_rfl }
open Go.RowKit in
theorem Tryz.Buffer_WriteRune_k (B b : Nat) (bs : List Value) (r : Int) (hr0 : -2147483648 ≤ r) (hr1 : r ≤ 2147483647) (w : World) (h : Lib.IsBuffer 89 5 B b bs w) (hBw : B ≤ w.heap.size) (h1 : ∀ v ∈ bs, v.oneCell' = true) (hlim : bs.length + 4 ≤ 140737488355328) :
    Calls Tryz.prog 51 #[.pointer (some ⟨b, 0, none⟩), .int .i32 r] w fun e w' => e = .returned (.tuple #[.int .i64 (Lib.runeCells r).length, .nilIface]) ∧ Lib.IsBuffer 89 5 B b (bs ++ Lib.runeCells r) w' ∧ Below B w w' ∧ Lib.OthersKept 5 (some b) w w' := Any.Buffer_WriteRune_k Tryz.laysWr5 B b bs r hr0 hr1 w h hBw h1 hlim
def Tryz.lays99_ren : Go.Shelf.Ren := ⟨fun | 99 => 64 | 206 => 82 | n => n, fun | 9 => 9 | 4 => 4 | 3 => 3 | n => n, fun | n => n⟩
theorem Tryz.lays99 : Go.Proofs.Lays.n99 Tryz.prog Tryz.lays99_ren := {
  mixed := by kernel_rfl
  f99 := Tryz.func64.trans (congrArg some (by kernel_rfl))
  f206 := Tryz.func82.trans (congrArg some (by kernel_rfl))
  t3 := Tryz.underlying3
  a3 := Tryz.isAgg3
  z3 := Tryz.sizeOf3
  v3 := Tryz.zeroValue3
  t4 := Tryz.underlying4
  a4 := Tryz.isAgg4
  z4 := Tryz.sizeOf4
  v4 := Tryz.zeroValue4
  t9 := Tryz.underlying9
  a9 := Tryz.isAgg9
  z9 := Tryz.sizeOf9
  v9 := Tryz.zeroValue9 }
open Go.RowKit Go.Lib in
theorem Tryz.strings_HasPrefix (s p : ByteArray) (w : World) :
    Calls Tryz.prog 64 #[.string s, .string p] w fun e w' => e = .returned (.bool (Lib.hasPrefix s.data.toList p.data.toList)) ∧ w' = w := Any.strings_HasPrefix Tryz.lays99 s p w
def Tryz.lays197_ren : Go.Shelf.Ren := ⟨fun | 197 => 49 | 260 => 71 | n => n, fun | 9 => 9 | 21 => 21 | 3 => 3 | 4 => 4 | 5 => 5 | 105 => 81 | 119 => 128 | 0 => 0 | 46 => 111 | 139 => 131 | 138 => 130 | n => n, fun | 3 => 0 | 4 => 1 | n => n⟩
theorem Tryz.lays197 : Go.Proofs.Lays.n197 Tryz.prog Tryz.lays197_ren := {
  mixed := by kernel_rfl
  f197 := Tryz.func49.trans (congrArg some (by kernel_rfl))
  f260 := Tryz.func71.trans (congrArg some (by kernel_rfl))
  t0 := Tryz.underlying0
  a0 := Tryz.isAgg0
  z0 := Tryz.sizeOf0
  v0 := Tryz.zeroValue0
  t3 := Tryz.underlying3
  a3 := Tryz.isAgg3
  z3 := Tryz.sizeOf3
  v3 := Tryz.zeroValue3
  t4 := Tryz.underlying4
  a4 := Tryz.isAgg4
  z4 := Tryz.sizeOf4
  v4 := Tryz.zeroValue4
  t5 := Tryz.underlying5
  a5 := Tryz.isAgg5
  z5 := Tryz.sizeOf5
  v5 := Tryz.zeroValue5
  t9 := Tryz.underlying9
  a9 := Tryz.isAgg9
  z9 := Tryz.sizeOf9
  v9 := Tryz.zeroValue9
  t21 := Tryz.underlying21
  a21 := Tryz.isAgg21
  z21 := Tryz.sizeOf21
  v21 := Tryz.zeroValue21
  t46 := Tryz.underlying111
  a46 := Tryz.isAgg111
  z46 := Tryz.sizeOf111
  v46 := Tryz.zeroValue111
  t105 := Tryz.underlying81
  a105 := Tryz.isAgg81
  z105 := Tryz.sizeOf81
  v105 := Tryz.zeroValue81
  t119 := Tryz.underlying128
  a119 := Tryz.isAgg128
  z119 := Tryz.sizeOf128
  t138 := Tryz.underlying130
  a138 := Tryz.isAgg130
  z138 := Tryz.sizeOf130
  v138 := Tryz.zeroValue130
  t139 := Tryz.underlying131
  a139 := Tryz.isAgg131
  z139 := Tryz.sizeOf131
  v139 := Tryz.zeroValue131
  g3 := by kernel_rfl
  g4 := by kernel_rfl }
open Go.RowKit Go.Lib in
theorem Tryz.utf8_DecodeRuneInString (s : ByteArray) (w : World) (hT : Lib.Utf8Tabs 0 1 w) :
    Calls Tryz.prog 49 #[.string s] w fun e w' => e = .returned (.tuple #[.int .i32 (Lib.decodeGo s).1, .int .i64 (Lib.decodeGo s).2]) ∧ Below w.heap.size w w' := Any.utf8_DecodeRuneInString Tryz.lays197 s w hT
end Go.Proofs
