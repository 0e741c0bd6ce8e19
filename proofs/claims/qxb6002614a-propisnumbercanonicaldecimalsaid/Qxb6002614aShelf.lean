import Derived.Shelf.GgClosure.StringsRunes
import Derived.Test.Qxb6002614aProg
namespace Go.Proofs
open Go.Shelf
def Try.laysGw17_ren : Go.Shelf.Ren := ⟨fun | 17 => 10 | 15 => 12 | 20 => 13 | n => n, fun | 9 => 9 | 23 => 24 | 4 => 4 | 3 => 3 | 0 => 0 | 21 => 21 | n => n, fun | n => n⟩
theorem Try.laysGw17 : Go.Proofs.LaysGw.n17 Try.prog Try.laysGw17_ren := {
  mixed := by kernel_rfl
  f15 := Try.func12.trans (congrArg some (by kernel_rfl))
  f17 := Try.func10.trans (congrArg some (by kernel_rfl))
  f20 := Try.func13.trans (congrArg some (by kernel_rfl))
  t0 := Try.underlying0
  a0 := Try.isAgg0
  z0 := Try.sizeOf0
  v0 := Try.zeroValue0
  i0 := by kernel_rfl
  t3 := Try.underlying3
  a3 := Try.isAgg3
  z3 := Try.sizeOf3
  v3 := Try.zeroValue3
  i3 := by kernel_rfl
  t4 := Try.underlying4
  a4 := Try.isAgg4
  z4 := Try.sizeOf4
  v4 := Try.zeroValue4
  i4 := by kernel_rfl
  t9 := Try.underlying9
  a9 := Try.isAgg9
  z9 := Try.sizeOf9
  v9 := Try.zeroValue9
  i9 := by kernel_rfl
  t21 := Try.underlying21
  a21 := Try.isAgg21
  z21 := Try.sizeOf21
  v21 := Try.zeroValue21
  i21 := by kernel_rfl
  t23 := Try.underlying24
  a23 := Try.isAgg24
  z23 := Try.sizeOf24
  v23 := Try.zeroValue24
  i23 := by kernel_rfl }
open Go.RowKit Go.Lib in
theorem Try.strings_ContainsFunc_runes (g : Nat) (lb : Array Value) (eg : ∀ args w, (callFunc g args).run Try.prog w = .ok (.enter g args) w) (p : Nat → Bool) (s : ByteArray) (w : World) (hp : PredAtRunes Try.prog g lb p w) :
    Calls Try.prog 10 #[.string s, .func (.func g) #[] lb] w fun e w' => e = .returned (.bool (decide (0 ≤ Lib.idxFunc p true s))) ∧ Below w.heap.size w w' := Any.strings_ContainsFunc_runes Try.laysGw17 g lb eg p s w hp
end Go.Proofs
