import Derived.Test.YbulkvukRows
import Derived.Shelf.Bin.LEPutUint64
namespace Go.Proofs.Ybulkvuk
open Go.RowKit Go.Shelf

/-! ### PutUint64's contract at this dump's numbers -/
def putRen : Ren := ⟨fun | 34 => 24 | n => n, fun | 25 => 93 | 22 => 23 | 33 => 24 | 0 => 0 | 5 => 5 | 45 => 118 | n => n, fun n => n⟩
theorem putLays : LaysBin.n34 Yba.prog putRen :=
  { mixed := by kernel_rfl
    f34 := Yba.func24.trans (congrArg some (by kernel_rfl))
    t0 := Yba.underlying0
    a0 := Yba.isAgg0
    z0 := Yba.sizeOf0
    v0 := Yba.zeroValue0
    i0 := by kernel_rfl
    t5 := Yba.underlying5
    a5 := Yba.isAgg5
    z5 := Yba.sizeOf5
    v5 := Yba.zeroValue5
    i5 := by kernel_rfl
    t22 := Yba.underlying23
    a22 := Yba.isAgg23
    z22 := Yba.sizeOf23
    v22 := Yba.zeroValue23
    i22 := by kernel_rfl
    t25 := Yba.underlying93
    a25 := Yba.isAgg93
    z25 := Yba.sizeOf93
    v25 := Yba.zeroValue93
    i25 := by kernel_rfl
    t33 := Yba.underlying24
    a33 := Yba.isAgg24
    z33 := Yba.sizeOf24
    v33 := Yba.zeroValue24
    i33 := by kernel_rfl
    t45 := Yba.underlying118
    a45 := Yba.isAgg118
    z45 := Yba.sizeOf118
    v45 := Yba.zeroValue118
    i45 := by kernel_rfl }
end Go.Proofs.Ybulkvuk
