/- Contracts of the library, laid at this program by the shelf. -/
import Derived.Shelf.LaysM
import Derived.Shelf.Bytes.Len
import Derived.Shelf.Bytes.TryGrow
import Derived.Shelf.Bytes.GrowSliceCatch
import Derived.Shelf.Bytes.GrowSlice
import Derived.Shelf.Bytes.Bytes
import Derived.Shelf.Strconv.Lower
import Derived.Shelf.Strconv.ParseUint10b64
import Derived.Shelf.Bytes.GrowRow0Kept
import Derived.Shelf.Bytes.GrowRowKept
import Derived.Shelf.Bytes.GrowNilKept
import Derived.Shelf.Bytes.GrowKept
import Derived.Shelf.Bytes.GrowRow0Own
import Derived.Shelf.Bytes.GrowRowOwn
import Derived.Shelf.Bytes.GrowNilOwn
import Derived.Shelf.Bytes.GrowOwn
import Derived.Shelf.Bytes.WriteAny
import Derived.Test.YtpfmmbhbmdbmeaaGreatDoorProg
namespace Go.Proofs
open Go.Shelf
def Tryz.lays287_ren : Go.Shelf.Ren := ⟨fun | 287 => 65 | 321 => 77 | 322 => 78 | n => n, fun | 9 => 9 | 3 => 3 | 53 => 29 | 75 => 82 | 4 => 4 | 167 => 154 | 5 => 5 | 46 => 69 | 37 => 27 | 0 => 0 | 21 => 21 | 80 => 187 | n => n, fun | n => n⟩
theorem Tryz.lays287 : Go.Proofs.Lays.n287 Tryz.prog Tryz.lays287_ren := {
  mixed := by kernel_rfl
  f287 := Tryz.func65.trans (congrArg some (by kernel_rfl))
  f321 := Tryz.func77.trans (congrArg some (by kernel_rfl))
  f322 := Tryz.func78.trans (congrArg some (by kernel_rfl))
  t0 := Tryz.underlying0
  a0 := Tryz.isAgg0
  z0 := Tryz.sizeOf0
  v0 := Tryz.zeroValue0
  t3 := Tryz.underlying3
  a3 := Tryz.isAgg3
  z3 := Tryz.sizeOf3
  v3 := Tryz.zeroValue3
  t4 := Tryz.underlying4
  a4 := Tryz.isAgg4
  z4 := Tryz.sizeOf4
  v4 := Tryz.zeroValue4
  t5 := Tryz.underlying5
  a5 := Tryz.isAgg5
  z5 := Tryz.sizeOf5
  v5 := Tryz.zeroValue5
  t9 := Tryz.underlying9
  a9 := Tryz.isAgg9
  z9 := Tryz.sizeOf9
  v9 := Tryz.zeroValue9
  t21 := Tryz.underlying21
  a21 := Tryz.isAgg21
  z21 := Tryz.sizeOf21
  v21 := Tryz.zeroValue21
  t37 := Tryz.underlying27
  a37 := Tryz.isAgg27
  z37 := Tryz.sizeOf27
  v37 := Tryz.zeroValue27
  t46 := Tryz.underlying69
  a46 := Tryz.isAgg69
  z46 := Tryz.sizeOf69
  v46 := Tryz.zeroValue69
  t53 := Tryz.underlying29
  a53 := Tryz.isAgg29
  z53 := Tryz.sizeOf29
  v53 := Tryz.zeroValue29
  t75 := Tryz.underlying82
  a75 := Tryz.isAgg82
  z75 := Tryz.sizeOf82
  v75 := Tryz.zeroValue82
  t167 := Tryz.underlying154
  a167 := Tryz.isAgg154
  z167 := Tryz.sizeOf154
  v167 := Tryz.zeroValue154 }
open Go.RowKit in
/-- internal/strconv.ParseUint(s, 10, 64), s NOT EMPTY: 'Lib.parseUint10 0' OF ITS BYTES: the number; or (0, ErrSyntax); or (the greatest uint64, ErrRange). The world behind the call: the one new row that '[]byte(s)' lays. (LAID: no walk: one application.) -/
theorem Tryz.internal_strconv_ParseUint_10_b64 (t : ByteArray) (hne : t.size ≠ 0) (hmax : t.size ≤ 9223372036854775806) (w : World) :
    Calls Tryz.prog 65 #[.string t, .int .i64 10, .int .i64 64] w fun e w' => e = .returned (Lib.uintTuple 154 (Lib.parseUint10 0 t.data.toList)) ∧ w' = Lib.bytesWorld w 5 t := Any.internal_strconv_ParseUint_10_b64 Tryz.lays287 t hne hmax w
end Go.Proofs
