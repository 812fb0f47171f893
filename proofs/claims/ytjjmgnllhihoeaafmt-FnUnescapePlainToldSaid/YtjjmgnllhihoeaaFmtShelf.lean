/- The library's contracts that this proof uses, at this seat's own numbers: each is one application of a contract of the kit's shelf. -/
import Derived.Shelf.Utf8.AppendRune
import Derived.Shelf.Utf8.AppendRunePlain
import Derived.Shelf.LaysM
import Derived.Shelf.Bytes.Len
import Derived.Shelf.Bytes.TryGrow
import Derived.Shelf.Bytes.GrowSliceCatch
import Derived.Shelf.Bytes.GrowSlice
import Derived.Shelf.Bytes.String
import Derived.Shelf.Bytes.Reset
import Derived.Shelf.Bytes.GrowRow0Kept
import Derived.Shelf.Bytes.GrowRowKept
import Derived.Shelf.Bytes.GrowNilKept
import Derived.Shelf.Bytes.GrowKept
import Derived.Shelf.Bytes.WriteByteKept
import Derived.Shelf.Bytes.ResetKept
import Derived.Shelf.Bytes.BufferK
import Derived.Shelf.Bytes.GrowRow0Own
import Derived.Shelf.Bytes.GrowRowOwn
import Derived.Shelf.Bytes.GrowNilOwn
import Derived.Shelf.Bytes.GrowOwn
import Derived.Ground.MzProg
import Derived.Shelf.Wr.WriteRuneAscii
import Derived.Shelf.Wr.WriteRune
import Derived.Shelf.Unicode.DecodeSlow
import Derived.Shelf.Unicode.DecodeAny
import Derived.Ground.PaProg
import Derived.Shelf.Hex.Lens
import Derived.Shelf.Hex.Decode
import Derived.Shelf.Hex.DecodeOwns
import Derived.Shelf.Hex.More
import Derived.Test.YtjjmgnllhihoeaaFmtProg
namespace Go.Proofs
open Go.Shelf
def Tryf.laysM182_ren : Go.Shelf.Ren := ⟨fun | 182 => 16 | n => n, fun | 130 => 57 | 9 => 9 | 4 => 4 | 0 => 0 | 93 => 40 | 37 => 36 | 3 => 3 | 91 => 38 | 5 => 5 | n => n, fun | n => n⟩
theorem Tryf.laysM182 : Go.Proofs.LaysM.n182 Tryf.prog Tryf.laysM182_ren := {
  mixed := by kernel_rfl
  f182 := Tryf.func16.trans (congrArg some (by kernel_rfl))
  t0 := Tryf.underlying0
  a0 := Tryf.isAgg0
  z0 := Tryf.sizeOf0
  v0 := Tryf.zeroValue0
  t3 := Tryf.underlying3
  a3 := Tryf.isAgg3
  z3 := Tryf.sizeOf3
  v3 := Tryf.zeroValue3
  t4 := Tryf.underlying4
  a4 := Tryf.isAgg4
  z4 := Tryf.sizeOf4
  v4 := Tryf.zeroValue4
  t9 := Tryf.underlying9
  a9 := Tryf.isAgg9
  z9 := Tryf.sizeOf9
  v9 := Tryf.zeroValue9
  t37 := Tryf.underlying36
  a37 := Tryf.isAgg36
  z37 := Tryf.sizeOf36
  v37 := Tryf.zeroValue36
  t93 := Tryf.underlying40
  a93 := Tryf.isAgg40
  z93 := Tryf.sizeOf40
  v93 := Tryf.zeroValue40
  t130 := Tryf.underlying57
  a130 := Tryf.isAgg57
  z130 := Tryf.sizeOf57
  v130 := Tryf.zeroValue57
  t5 := Tryf.underlying5
  a5 := Tryf.isAgg5
  z5 := Tryf.sizeOf5
  v5 := Tryf.zeroValue5
  t91 := Tryf.underlying38
  a91 := Tryf.isAgg38
  z91 := Tryf.sizeOf38
  v91 := Tryf.zeroValue38
  i0 := by kernel_rfl
  i3 := by kernel_rfl
  i4 := by kernel_rfl
  i5 := by kernel_rfl
  i9 := by kernel_rfl
  i37 := by kernel_rfl
  i91 := by kernel_rfl
  i93 := by kernel_rfl
  i130 := by kernel_rfl }
open Go.RowKit in
theorem Tryf.Buffer_String (B b : Nat) (l : List UInt8) (w : World) (h : Lib.IsBuffer 40 5 B b (Lib.byteCells l) w) :
    Calls Tryf.prog 16 #[.pointer (some ⟨b, 0, none⟩)] w fun e w' => e = .returned (.string ⟨l.toArray⟩) ∧ ∃ n, w' = w.drewN n := Any.Buffer_String Tryf.laysM182 B b l w h
def Tryf.laysWr5_ren : Go.Shelf.Ren := ⟨fun | 5 => 11 | 7 => 18 | 8 => 19 | 9 => 20 | 10 => 21 | 11 => 24 | 12 => 25 | 13 => 26 | 14 => 27 | 15 => 28 | n => n, fun | 34 => 57 | 21 => 21 | 3 => 3 | 28 => 27 | 35 => 58 | 4 => 4 | 5 => 5 | 0 => 0 | 26 => 40 | 24 => 38 | 37 => 60 | 22 => 36 | 43 => 65 | 20 => 20 | 31 => 53 | 9 => 9 | n => n, fun | 0 => 2 | n => n⟩
theorem Tryf.laysWr5 : Go.Proofs.LaysWr.n5 Tryf.prog Tryf.laysWr5_ren := {
  mixed := by kernel_rfl
  f5 := Tryf.func11.trans (congrArg some (by kernel_rfl))
  f7 := Tryf.func18.trans (congrArg some (by kernel_rfl))
  f8 := Tryf.func19.trans (congrArg some (by kernel_rfl))
  f9 := Tryf.func20.trans (congrArg some (by kernel_rfl))
  f10 := Tryf.func21.trans (congrArg some (by kernel_rfl))
  f11 := Tryf.func24.trans (congrArg some (by kernel_rfl))
  f12 := Tryf.func25.trans (congrArg some (by kernel_rfl))
  f13 := Tryf.func26.trans (congrArg some (by kernel_rfl))
  f14 := Tryf.func27.trans (congrArg some (by kernel_rfl))
  f15 := Tryf.func28.trans (congrArg some (by kernel_rfl))
  t0 := Tryf.underlying0
  a0 := Tryf.isAgg0
  z0 := Tryf.sizeOf0
  v0 := Tryf.zeroValue0
  i0 := by kernel_rfl
  t3 := Tryf.underlying3
  a3 := Tryf.isAgg3
  z3 := Tryf.sizeOf3
  v3 := Tryf.zeroValue3
  i3 := by kernel_rfl
  t4 := Tryf.underlying4
  a4 := Tryf.isAgg4
  z4 := Tryf.sizeOf4
  v4 := Tryf.zeroValue4
  i4 := by kernel_rfl
  t5 := Tryf.underlying5
  a5 := Tryf.isAgg5
  z5 := Tryf.sizeOf5
  v5 := Tryf.zeroValue5
  i5 := by kernel_rfl
  t9 := Tryf.underlying9
  a9 := Tryf.isAgg9
  z9 := Tryf.sizeOf9
  v9 := Tryf.zeroValue9
  i9 := by kernel_rfl
  t20 := Tryf.underlying20
  a20 := Tryf.isAgg20
  z20 := Tryf.sizeOf20
  v20 := Tryf.zeroValue20
  i20 := by kernel_rfl
  t21 := Tryf.underlying21
  a21 := Tryf.isAgg21
  z21 := Tryf.sizeOf21
  v21 := Tryf.zeroValue21
  i21 := by kernel_rfl
  t22 := Tryf.underlying36
  a22 := Tryf.isAgg36
  z22 := Tryf.sizeOf36
  v22 := Tryf.zeroValue36
  i22 := by kernel_rfl
  t24 := Tryf.underlying38
  a24 := Tryf.isAgg38
  z24 := Tryf.sizeOf38
  v24 := Tryf.zeroValue38
  i24 := by kernel_rfl
  t26 := Tryf.underlying40
  a26 := Tryf.isAgg40
  z26 := Tryf.sizeOf40
  v26 := Tryf.zeroValue40
  i26 := by kernel_rfl
  t28 := Tryf.underlying27
  a28 := Tryf.isAgg27
  z28 := Tryf.sizeOf27
  v28 := Tryf.zeroValue27
  i28 := by kernel_rfl
  t31 := Tryf.underlying53
  a31 := Tryf.isAgg53
  z31 := Tryf.sizeOf53
  v31 := Tryf.zeroValue53
  i31 := by kernel_rfl
  t34 := Tryf.underlying57
  a34 := Tryf.isAgg57
  z34 := Tryf.sizeOf57
  v34 := Tryf.zeroValue57
  i34 := by kernel_rfl
  t35 := Tryf.underlying58
  a35 := Tryf.isAgg58
  z35 := Tryf.sizeOf58
  v35 := Tryf.zeroValue58
  i35 := by kernel_rfl
  t37 := Tryf.underlying60
  a37 := Tryf.isAgg60
  z37 := Tryf.sizeOf60
  v37 := Tryf.zeroValue60
  i37 := by kernel_rfl
  t43 := Tryf.underlying65
  a43 := Tryf.isAgg65
  z43 := Tryf.sizeOf65
  v43 := Tryf.zeroValue65
  i43 := by kernel_rfl
  g0 := by kernel_rfl
  m0 := by kernel_rfl }
open Go.RowKit in
theorem Tryf.Buffer_WriteRune_k (B b : Nat) (bs : List Value) (r : Int) (hr0 : -2147483648 ≤ r) (hr1 : r ≤ 2147483647) (w : World) (h : Lib.IsBuffer 40 5 B b bs w) (hBw : B ≤ w.heap.size) (h1 : ∀ v ∈ bs, v.oneCell' = true) (hlim : bs.length + 4 ≤ 140737488355328) :
    Calls Tryf.prog 11 #[.pointer (some ⟨b, 0, none⟩), .int .i32 r] w fun e w' => e = .returned (.tuple #[.int .i64 (Lib.runeCells r).length, .nilIface]) ∧ Lib.IsBuffer 40 5 B b (bs ++ Lib.runeCells r) w' ∧ Below B w w' ∧ Lib.OthersKept 5 (some b) w w' := Any.Buffer_WriteRune_k Tryf.laysWr5 B b bs r hr0 hr1 w h hBw h1 hlim
def Tryf.lays197_ren : Go.Shelf.Ren := ⟨fun | 197 => 9 | 260 => 17 | n => n, fun | 9 => 9 | 21 => 21 | 3 => 3 | 4 => 4 | 5 => 5 | 105 => 41 | 119 => 66 | 0 => 0 | 46 => 65 | 139 => 69 | 138 => 68 | n => n, fun | 3 => 0 | 4 => 1 | n => n⟩
theorem Tryf.lays197 : Go.Proofs.Lays.n197 Tryf.prog Tryf.lays197_ren := {
  mixed := by kernel_rfl
  f197 := Tryf.func9.trans (congrArg some (by kernel_rfl))
  f260 := Tryf.func17.trans (congrArg some (by kernel_rfl))
  t0 := Tryf.underlying0
  a0 := Tryf.isAgg0
  z0 := Tryf.sizeOf0
  v0 := Tryf.zeroValue0
  t3 := Tryf.underlying3
  a3 := Tryf.isAgg3
  z3 := Tryf.sizeOf3
  v3 := Tryf.zeroValue3
  t4 := Tryf.underlying4
  a4 := Tryf.isAgg4
  z4 := Tryf.sizeOf4
  v4 := Tryf.zeroValue4
  t5 := Tryf.underlying5
  a5 := Tryf.isAgg5
  z5 := Tryf.sizeOf5
  v5 := Tryf.zeroValue5
  t9 := Tryf.underlying9
  a9 := Tryf.isAgg9
  z9 := Tryf.sizeOf9
  v9 := Tryf.zeroValue9
  t21 := Tryf.underlying21
  a21 := Tryf.isAgg21
  z21 := Tryf.sizeOf21
  v21 := Tryf.zeroValue21
  t46 := Tryf.underlying65
  a46 := Tryf.isAgg65
  z46 := Tryf.sizeOf65
  v46 := Tryf.zeroValue65
  t105 := Tryf.underlying41
  a105 := Tryf.isAgg41
  z105 := Tryf.sizeOf41
  v105 := Tryf.zeroValue41
  t119 := Tryf.underlying66
  a119 := Tryf.isAgg66
  z119 := Tryf.sizeOf66
  t138 := Tryf.underlying68
  a138 := Tryf.isAgg68
  z138 := Tryf.sizeOf68
  v138 := Tryf.zeroValue68
  t139 := Tryf.underlying69
  a139 := Tryf.isAgg69
  z139 := Tryf.sizeOf69
  v139 := Tryf.zeroValue69
  g3 := by kernel_rfl
  g4 := by kernel_rfl }
open Go.RowKit Go.Lib in
theorem Tryf.utf8_DecodeRuneInString (s : ByteArray) (w : World) (hT : Lib.Utf8Tabs 0 1 w) :
    Calls Tryf.prog 9 #[.string s] w fun e w' => e = .returned (.tuple #[.int .i32 (Lib.decodeGo s).1, .int .i64 (Lib.decodeGo s).2]) ∧ Below w.heap.size w w' := Any.utf8_DecodeRuneInString Tryf.lays197 s w hT
def Tryf.laysPah43_ren : Go.Shelf.Ren := ⟨fun | 43 => 12 | 42 => 22 | 44 => 23 | n => n, fun | 9 => 9 | 30 => 36 | 35 => 27 | 3 => 3 | 38 => 46 | 4 => 4 | 0 => 0 | 5 => 5 | 47 => 72 | 46 => 65 | 45 => 53 | n => n, fun | 0 => 3 | n => n⟩
theorem Tryf.laysPah43 : Go.Proofs.Lays.ph43 Tryf.prog Tryf.laysPah43_ren := {
  mixed := by kernel_rfl
  f42 := Tryf.func22.trans (congrArg some (by kernel_rfl))
  f43 := Tryf.func12.trans (congrArg some (by kernel_rfl))
  f44 := Tryf.func23.trans (congrArg some (by kernel_rfl))
  t0 := Tryf.underlying0
  a0 := Tryf.isAgg0
  z0 := Tryf.sizeOf0
  v0 := Tryf.zeroValue0
  t3 := Tryf.underlying3
  a3 := Tryf.isAgg3
  z3 := Tryf.sizeOf3
  v3 := Tryf.zeroValue3
  t4 := Tryf.underlying4
  a4 := Tryf.isAgg4
  z4 := Tryf.sizeOf4
  v4 := Tryf.zeroValue4
  t5 := Tryf.underlying5
  a5 := Tryf.isAgg5
  z5 := Tryf.sizeOf5
  v5 := Tryf.zeroValue5
  t9 := Tryf.underlying9
  a9 := Tryf.isAgg9
  z9 := Tryf.sizeOf9
  v9 := Tryf.zeroValue9
  t30 := Tryf.underlying36
  a30 := Tryf.isAgg36
  z30 := Tryf.sizeOf36
  v30 := Tryf.zeroValue36
  t35 := Tryf.underlying27
  a35 := Tryf.isAgg27
  z35 := Tryf.sizeOf27
  v35 := Tryf.zeroValue27
  t38 := Tryf.underlying46
  a38 := Tryf.isAgg46
  z38 := Tryf.sizeOf46
  v38 := Tryf.zeroValue46
  t45 := Tryf.underlying53
  a45 := Tryf.isAgg53
  z45 := Tryf.sizeOf53
  v45 := Tryf.zeroValue53
  t46 := Tryf.underlying65
  a46 := Tryf.isAgg65
  z46 := Tryf.sizeOf65
  v46 := Tryf.zeroValue65
  t47 := Tryf.underlying72
  a47 := Tryf.isAgg72
  z47 := Tryf.sizeOf72
  v47 := Tryf.zeroValue72
  g0 := by kernel_rfl
  info5 := by kernel_rfl }
open Go.RowKit Go.Lib in
theorem Tryf.hex_DecodeString_owns (s : ByteArray) (w : World) (ev : Value) (hE : w.cell? ⟨3, 0, none⟩ = some ev) (hbig : s.size ≤ 281474976710656) :
    Calls Tryf.prog 12 #[.string s] w fun e w' => ∃ v, e = .returned (.tuple #[v, Hx.errVal 72 ev (Hx.decode s.data.toList).2]) ∧
      w'.ownsRow w.heap.size 5 1 v (Hx.decode s.data.toList).1.length ((Hx.decode s.data.toList).1.map fun b => Value.int .u8 (b.toNat : Int)) ∧ Below w.heap.size w w' := Any.hex_DecodeString_owns Tryf.laysPah43 s w ev hE hbig
end Go.Proofs
