/- strings.Clone at this dump, out of the shelf's contract (proved once, over any program): the same bytes come back, nothing old has turned. -/
import Derived.Shelf.LaysM
import Derived.Shelf.Strconv.Clone
import Derived.Test.Qxb6003653aModsProg
import Derived.WalkKit
namespace Go.Proofs.Qxb6003653aMods
open Go.Shelf Go.RowKit

def lays316_ren : Go.Shelf.Ren := ⟨fun | 316 => 24 | n => n, fun | 9 => 9 | 3 => 3 | 4 => 4 | 37 => 28 | 0 => 0 | 127 => 49 | 5 => 5 | n => n, fun | n => n⟩
theorem lays316 : Go.Proofs.LaysM.n316 Trym.prog lays316_ren := {
  mixed := by kernel_rfl
  f316 := Trym.func24.trans (congrArg some (by kernel_rfl))
  t0 := Trym.underlying0
  a0 := Trym.isAgg0
  z0 := Trym.sizeOf0
  v0 := Trym.zeroValue0
  t3 := Trym.underlying3
  a3 := Trym.isAgg3
  z3 := Trym.sizeOf3
  v3 := Trym.zeroValue3
  t4 := Trym.underlying4
  a4 := Trym.isAgg4
  z4 := Trym.sizeOf4
  v4 := Trym.zeroValue4
  t9 := Trym.underlying9
  a9 := Trym.isAgg9
  z9 := Trym.sizeOf9
  v9 := Trym.zeroValue9
  t37 := Trym.underlying28
  a37 := Trym.isAgg28
  z37 := Trym.sizeOf28
  v37 := Trym.zeroValue28
  t127 := Trym.underlying49
  a127 := Trym.isAgg49
  z127 := Trym.sizeOf49
  v127 := Trym.zeroValue49
  t5 := Trym.underlying5
  a5 := Trym.isAgg5
  z5 := Trym.sizeOf5
  v5 := Trym.zeroValue5
  i0 := by kernel_rfl
  i3 := by kernel_rfl
  i4 := by kernel_rfl
  i5 := by kernel_rfl
  i9 := by kernel_rfl
  i37 := by kernel_rfl
  i127 := by kernel_rfl }

theorem clone24 (s : ByteArray) (w : World) (hlim : s.size ≤ 281474976710656) :
    Calls Trym.prog 24 #[.string s] w fun e w' => e = .returned (.string s) ∧ Below w.heap.size w w' := Any.stringslite_Clone lays316 s w hlim

theorem clone22 (s : ByteArray) (w : World) (hlim : s.size ≤ 281474976710656) :
    Calls Trym.prog 22 #[.string s] w fun e w' => e = .returned (.string s) ∧ Below w.heap.size w w' := by
  go_enter Trym.func22, Trym.ntmps22
  go_wp2_with (go_at_call 24; refine (clone24 s _ hlim).mono ?_; rintro e w' ⟨rfl, hb⟩)
  go_ret
  exact ⟨rfl, hb⟩

end Go.Proofs.Qxb6003653aMods
