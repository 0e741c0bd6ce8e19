import Derived.Test.Qxb6001352aRows
namespace Go.Proofs.Qxb6001352a
theorem signs_of (P : Program) (s : String) (l : List Char) (h2 : P.initOrder = s) (h : s = String.ofList l) : P.initOrder.toList = l := by rw [h2, h, String.toList_ofList]
set_option maxRecDepth 100000 in
theorem noLifts : Try.prog.headLifts = [] := by
  have h := signs_of Try.prog Try.progTables.initOrder _ rfl rfl
  unfold Program.headLifts
  rw [h]
  clear h
  refine Eq.trans ?_ (Eq.refl _)
  kernel_rfl
set_option maxRecDepth 100000 in
theorem lifts : Try.prog.liftsFinal = false := by
  have h := signs_of Try.prog Try.progTables.initOrder _ rfl rfl
  unfold Program.liftsFinal
  rw [noLifts, h]
  clear h
  refine Eq.trans ?_ (Eq.refl _)
  kernel_rfl
set_option maxRecDepth 100000 in
theorem made : Try.prog.make = some .cut := by
  have h := signs_of Try.prog Try.progTables.initOrder _ rfl rfl
  unfold Program.make
  rw [noLifts, h]
  clear h
  refine Eq.trans ?_ (Eq.refl _)
  kernel_rfl
set_option maxRecDepth 100000 in
theorem enters : Try.prog.mayEnter = true := by
  have h := signs_of Try.prog Try.progTables.initOrder _ rfl rfl
  unfold Program.mayEnter
  rw [h]
  clear h
  refine Eq.trans ?_ (Eq.refl _)
  kernel_rfl
end Go.Proofs.Qxb6001352a
