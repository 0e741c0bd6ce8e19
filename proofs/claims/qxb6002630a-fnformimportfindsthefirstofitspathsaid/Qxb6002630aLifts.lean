import Derived.Test.Qxb6002630aRows
namespace Go.Proofs.Qxb6002630a

theorem signs_of (P : Program) (s : String) (l : List Char) (h2 : P.initOrder = s) (h : s = String.ofList l) : P.initOrder.toList = l := by rw [h2, h, String.toList_ofList]

theorem word_ahead (p r : List Char) (hp : p.all (fun c => c != ' ') = true) : wordsSigns (p ++ ' ' :: r) = p :: wordsSigns r := by
  induction p with
  | nil => simp [wordsSigns]
  | cons c p ih =>
    simp only [List.all_cons, Bool.and_eq_true, bne_iff_ne, ne_eq] at hp
    have := ih hp.2
    rw [List.cons_append, wordsSigns, this]
    exact fun e => hp.1 e

theorem behind_of (l p s c r : List Char) (hl : l = p ++ ' ' :: (s ++ ' ' :: (c ++ ' ' :: r))) (hp : p.all (fun c => c != ' ') = true) (hs : s.all (fun c => c != ' ') = true) (hc : c.all (fun c => c != ' ') = true)
    (h1 : (p == "harness".toList) = true) (h2 : isSumSigns s = true) : behindMainWord (wordsSigns l) = c :: wordsSigns r := by
  rw [hl, word_ahead p _ hp, word_ahead s _ hs, word_ahead c _ hc]
  simp only [behindMainWord, h1, h2, Bool.true_or, Bool.and_self, if_true]

theorem cut_of (P : Program) (s : String) (l : List Char) (h2 : P.initOrder = s) (h : s = String.ofList l) (hl : l = l.take 7 ++ ' ' :: ((l.drop 8).take 64 ++ ' ' :: ("cut".toList ++ ' ' :: l.drop 77)))
    (hp : (l.take 7).all (fun c => c != ' ') = true) (hs : ((l.drop 8).take 64).all (fun c => c != ' ') = true) (h1 : (l.take 7 == "harness".toList) = true) (h3 : isSumSigns ((l.drop 8).take 64) = true) :
    ∃ X, behindMainWord (wordsSigns P.initOrder.toList) = "cut".toList :: X := by
  rw [signs_of P s l h2 h]
  exact ⟨_, behind_of l (l.take 7) ((l.drop 8).take 64) "cut".toList (l.drop 77) hl hp hs (by decide) h1 h3⟩

theorem noLifts_of (P : Program) (X : List (List Char)) (hX : behindMainWord (wordsSigns P.initOrder.toList) = "cut".toList :: X) : P.headLifts = [] := by
  have : stripLifts liftWords ("cut".toList :: X) = ([], "cut".toList :: X) := by kernel_rfl
  simp only [Program.headLifts, hX, this]
  simp

theorem lifts_of (P : Program) (X : List (List Char)) (hX : behindMainWord (wordsSigns P.initOrder.toList) = "cut".toList :: X) : P.liftsFinal = false := by
  simp [Program.liftsFinal, hX, noLifts_of P X hX]

theorem made_of (P : Program) (X : List (List Char)) (hX : behindMainWord (wordsSigns P.initOrder.toList) = "cut".toList :: X) : P.make = some .cut := by
  simp [Program.make, hX]

theorem enters_of (P : Program) (X : List (List Char)) (hX : behindMainWord (wordsSigns P.initOrder.toList) = "cut".toList :: X) (h1 : P.laysLater = false) (h2 : P.bearsReflect = false) (h3 : P.doorFits [] = true) : P.mayEnter = true := by
  have : stripLifts liftWords ("cut".toList :: X) = ([], "cut".toList :: X) := by kernel_rfl
  simp only [Program.mayEnter, hX, this]
  simp [h1, h2, h3]

set_option maxRecDepth 100000 in
theorem behind : ∃ X, behindMainWord (wordsSigns Try.prog.initOrder.toList) = "cut".toList :: X := by
  refine cut_of Try.prog Try.progTables.initOrder _ rfl rfl ?_ ?_ ?_ ?_ ?_
  all_goals kernel_rfl

theorem lifts : Try.prog.liftsFinal = false := by
  obtain ⟨X, hX⟩ := behind
  exact lifts_of _ X hX

theorem made : Try.prog.make = some .cut := by
  obtain ⟨X, hX⟩ := behind
  exact made_of _ X hX

theorem later : Try.prog.laysLater = false := by kernel_rfl
theorem reflects : Try.prog.bearsReflect = false := by kernel_rfl
theorem door : Try.prog.doorFits [] = true := by kernel_rfl

theorem enters : Try.prog.mayEnter = true := by
  obtain ⟨X, hX⟩ := behind
  exact enters_of _ X hX later reflects door

end Go.Proofs.Qxb6002630a
