/- The shelf's contract of (*bytes.Buffer).WriteRune at a rune of ASCII, laid at this dump (by the shelf's own tools). -/
import Derived.Ground.MzProg
import Derived.Shelf.Wr.WriteRuneAscii
import Derived.Test.YtklnlfmopmlmlaaDoorProg
namespace Go.Proofs
open Go.Shelf
def Tryd.laysWr5_ren : Go.Shelf.Ren := ⟨fun | 5 => 50 | 7 => 62 | 8 => 57 | 9 => 58 | 10 => 63 | 11 => 69 | 12 => 70 | 13 => 71 | 14 => 77 | 15 => 80 | n => n, fun | 34 => 80 | 21 => 21 | 3 => 3 | 28 => 50 | 35 => 107 | 4 => 4 | 5 => 5 | 0 => 0 | 26 => 84 | 24 => 82 | 37 => 101 | 22 => 43 | 43 => 92 | 20 => 20 | 31 => 76 | 9 => 9 | n => n, fun | 0 => 4 | n => n⟩
theorem Tryd.laysWr5 : Go.Proofs.LaysWr.n5 Tryd.prog Tryd.laysWr5_ren := {
  mixed := by kernel_rfl
  f5 := Tryd.func50.trans (congrArg some (by kernel_rfl))
  f7 := Tryd.func62.trans (congrArg some (by kernel_rfl))
  f8 := Tryd.func57.trans (congrArg some (by kernel_rfl))
  f9 := Tryd.func58.trans (congrArg some (by kernel_rfl))
  f10 := Tryd.func63.trans (congrArg some (by kernel_rfl))
  f11 := Tryd.func69.trans (congrArg some (by kernel_rfl))
  f12 := Tryd.func70.trans (congrArg some (by kernel_rfl))
  f13 := Tryd.func71.trans (congrArg some (by kernel_rfl))
  f14 := Tryd.func77.trans (congrArg some (by kernel_rfl))
  f15 := Tryd.func80.trans (congrArg some (by kernel_rfl))
  t0 := Tryd.underlying0
  a0 := Tryd.isAgg0
  z0 := Tryd.sizeOf0
  v0 := Tryd.zeroValue0
  i0 := by kernel_rfl
  t3 := Tryd.underlying3
  a3 := Tryd.isAgg3
  z3 := Tryd.sizeOf3
  v3 := Tryd.zeroValue3
  i3 := by kernel_rfl
  t4 := Tryd.underlying4
  a4 := Tryd.isAgg4
  z4 := Tryd.sizeOf4
  v4 := Tryd.zeroValue4
  i4 := by kernel_rfl
  t5 := Tryd.underlying5
  a5 := Tryd.isAgg5
  z5 := Tryd.sizeOf5
  v5 := Tryd.zeroValue5
  i5 := by kernel_rfl
  t9 := Tryd.underlying9
  a9 := Tryd.isAgg9
  z9 := Tryd.sizeOf9
  v9 := Tryd.zeroValue9
  i9 := by kernel_rfl
  t20 := Tryd.underlying20
  a20 := Tryd.isAgg20
  z20 := Tryd.sizeOf20
  v20 := Tryd.zeroValue20
  i20 := by kernel_rfl
  t21 := Tryd.underlying21
  a21 := Tryd.isAgg21
  z21 := Tryd.sizeOf21
  v21 := Tryd.zeroValue21
  i21 := by kernel_rfl
  t22 := Tryd.underlying43
  a22 := Tryd.isAgg43
  z22 := Tryd.sizeOf43
  v22 := Tryd.zeroValue43
  i22 := by kernel_rfl
  t24 := Tryd.underlying82
  a24 := Tryd.isAgg82
  z24 := Tryd.sizeOf82
  v24 := Tryd.zeroValue82
  i24 := by kernel_rfl
  t26 := Tryd.underlying84
  a26 := Tryd.isAgg84
  z26 := Tryd.sizeOf84
  v26 := Tryd.zeroValue84
  i26 := by kernel_rfl
  t28 := Tryd.underlying50
  a28 := Tryd.isAgg50
  z28 := Tryd.sizeOf50
  v28 := Tryd.zeroValue50
  i28 := by kernel_rfl
  t31 := Tryd.underlying76
  a31 := Tryd.isAgg76
  z31 := Tryd.sizeOf76
  v31 := Tryd.zeroValue76
  i31 := by kernel_rfl
  t34 := Tryd.underlying80
  a34 := Tryd.isAgg80
  z34 := Tryd.sizeOf80
  v34 := Tryd.zeroValue80
  i34 := by kernel_rfl
  t35 := Tryd.underlying107
  a35 := Tryd.isAgg107
  z35 := Tryd.sizeOf107
  v35 := Tryd.zeroValue107
  i35 := by kernel_rfl
  t37 := Tryd.underlying101
  a37 := Tryd.isAgg101
  z37 := Tryd.sizeOf101
  v37 := Tryd.zeroValue101
  i37 := by kernel_rfl
  t43 := Tryd.underlying92
  a43 := Tryd.isAgg92
  z43 := Tryd.sizeOf92
  v43 := Tryd.zeroValue92
  i43 := by kernel_rfl
  g0 := by kernel_rfl
  m0 := by kernel_rfl }
open Go.RowKit in
/-- (*bytes.Buffer).WriteRune, AT A RUNE OF ASCII: (1, nil); THE BUFFER HOLDS ONE BYTE MORE: r. The frames: as WriteByte's '_k'. (LAID: no walk: one application.) -/
theorem Tryd.Buffer_WriteRune_ascii (B b : Nat) (bs : List Value) (r : Int) (h0 : 0 ≤ r) (h128 : r < 128) (w : World) (h : Lib.IsBuffer 84 5 B b bs w) (hBw : B ≤ w.heap.size) (h1 : ∀ v ∈ bs, v.oneCell' = true) (hlim : bs.length + 1 ≤ 140737488355328) :
    Calls Tryd.prog 50 #[.pointer (some ⟨b, 0, none⟩), .int .i32 r] w fun e w' => e = .returned (.tuple #[.int .i64 1, .nilIface]) ∧ Lib.IsBuffer 84 5 B b (bs ++ [.int .u8 r]) w' ∧ Below B w w' ∧ Lib.OthersKept 5 (some b) w w' := Any.Buffer_WriteRune_ascii Tryd.laysWr5 B b bs r h0 h128 w h hBw h1 hlim
end Go.Proofs
