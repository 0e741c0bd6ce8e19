import Derived.Test.Qxb6001352aShelf
import Derived.WalkKit
namespace Go.Proofs.Qxb6001352a.Bld
open Go.Shelf Go.RowKit

theorem sizeB : (Try.prog.info? 50).map (fun i => i.size) = some 2 := by kernel_rfl
theorem infoByte : (Try.prog.info? 5).map (fun i => (i.zero, i.size, i.bytes)) = some (some (.int .u8 0), 1, 1) := by kernel_rfl

set_option maxHeartbeats 1000000 in
set_option maxRecDepth 100000 in
theorem copyCheck_used (b : Nat) (w : World) (h0 : w.cell? ⟨b, 0, none⟩ = some (.pointer (some ⟨b, 0, none⟩))) :
    Calls Try.prog 39 #[.pointer (some ⟨b, 0, none⟩)] w fun e w' => e = .returned (.tuple #[]) ∧ w' = w := by
  obtain ⟨j, hj, _⟩ := Option.map_eq_some_iff.1 sizeB
  go_enter Try.func39, Try.ntmps39
  go_wp2
  rw [Lib.run_neq_ptr_same w _ Try.underlying47 hj]
  go_wp2
  go_end0
  exact ⟨rfl, rfl⟩

theorem run_prog {α : Type} (P : Program) (k : Program → Sem α) (w : World) : Sem.run P (.program k) w = Sem.run P (k P) w := by simp [Sem.run]
theorem run_shape1 {α : Type} (P : Program) (r : Nat) (k : Option (TypeId × Nat) → Sem α) (w : World) : Sem.run P (.shape r k) w = Sem.run P (k (w.shape? r)) w := by simp [Sem.run]
theorem run_pure1 {α : Type} (P : Program) (x : α) (w : World) : Sem.run P (.pure x) w = .ok x w := by simp [Sem.run]


set_option maxRecDepth 100000 in
theorem conv1 (w : World) (b : Nat) (hsh : w.shape? b = some (50, 2)) : (convert 47 59 (.pointer (some ⟨b, 0, none⟩))).run Try.prog w = .ok (.pointer (some ⟨b, 0, none⟩)) w := by
  have hs : ∀ k : Option (TypeId × Nat) → Sem Value, Sem.run Try.prog (.shape b k) w = Sem.run Try.prog (k (some (50, 2))) w := fun k => (run_shape1 Try.prog b k w).trans (by rw [hsh])
  repeat (first | refine (run_prog Try.prog _ w).trans ?_ | refine (hs _).trans ?_)
  refine Eq.trans ?_ (Eq.refl _)
  kernel_rfl

set_option maxRecDepth 100000 in
theorem conv2 (w : World) (b : Nat) (hsh : w.shape? b = some (50, 2)) : (convert 59 47 (.pointer (some ⟨b, 0, none⟩))).run Try.prog w = .ok (.pointer (some ⟨b, 0, none⟩)) w := by
  have hs : ∀ k : Option (TypeId × Nat) → Sem Value, Sem.run Try.prog (.shape b k) w = Sem.run Try.prog (k (some (50, 2))) w := fun k => (run_shape1 Try.prog b k w).trans (by rw [hsh])
  repeat (first | refine (run_prog Try.prog _ w).trans ?_ | refine (hs _).trans ?_)
  refine Eq.trans ?_ (Eq.refl _)
  kernel_rfl

set_option maxHeartbeats 1000000 in
set_option maxRecDepth 100000 in
theorem copyCheck_fresh (b : Nat) (w : World) (h0 : w.cell? ⟨b, 0, none⟩ = some (.pointer none)) (hsh : w.shape? b = some (50, 2)) (hfz : w.frozen? ⟨b, 0, none⟩ = false) :
    Calls Try.prog 39 #[.pointer (some ⟨b, 0, none⟩)] w fun e w' => e = .returned (.tuple #[]) ∧ w' = w.setCell ⟨b, 0, none⟩ (.pointer (some ⟨b, 0, none⟩)) := by
  go_enter Try.func39, Try.ntmps39
  go_wp2
  rw [conv1 w b hsh]
  simp only [Result.andThen]
  rw [Oper.upon_value]
  go_wp2
  rw [run_callFunc_extern Try.func40 (by kernel_rfl) (by kernel_rfl) (by kernel_rfl) (e := Extern.AbiNoEscape.same) (by kernel_rfl)]
  rw [Lib.run_noEscape]
  simp only [Result.andThen]
  rw [Oper.upon_value]
  go_wp2
  rw [conv2 w b hsh]
  simp only [Result.andThen]
  rw [Oper.upon_value]
  go_wp2
  go_end0
  exact ⟨rfl, rfl⟩

theorem copyCheck_k (B b : Nat) (bs : List Value) (w : World) (h : Lib.IsBuilderF 50 5 B b bs w) :
    Calls Try.prog 39 #[.pointer (some ⟨b, 0, none⟩)] w fun e w' => e = .returned (.tuple #[]) ∧ (Lib.BuilderAtF 50 5 B b (.pointer (some ⟨b, 0, none⟩)) bs w' ∧ Below B w w' ∧ Lib.OthersKept 5 (some b) w w') := by
  rcases h with h | h
  · refine (copyCheck_fresh b w h.cell0 h.shape h.frozen0).mono ?_
    rintro e w' ⟨rfl, rfl⟩
    exact ⟨rfl, h.used _, (Below.refl B w).setCell (p := ⟨b, 0, none⟩) h.1 _, (Lib.OthersKept.refl _ _ w).setCell ⟨b, 0, none⟩ rfl _⟩
  · refine (copyCheck_used b w h.cell0).mono ?_
    rintro e w' ⟨rfl, rfl⟩
    exact ⟨rfl, h, Below.refl B _, Lib.OthersKept.refl _ _ _⟩

set_option maxHeartbeats 2000000 in
set_option maxRecDepth 100000 in
theorem writeByte_k (B b : Nat) (bs : List Value) (c : Int) (w : World) (h : Lib.IsBuilderF 50 5 B b bs w) (hlen : bs.length + 1 ≤ 140737488355328) (hBw : B ≤ w.heap.size) :
    Calls Try.prog 33 #[.pointer (some ⟨b, 0, none⟩), .int .u8 c] w fun e w' => e = .returned .nilIface ∧ (Lib.BuilderAtF 50 5 B b (.pointer (some ⟨b, 0, none⟩)) (bs ++ [.int .u8 c]) w' ∧ Below B w w' ∧ Lib.OthersKept 5 (some b) w w') := by
  obtain ⟨i0, hi, hz0, hz1, hz2⟩ := info_parts infoByte
  go_enter Try.func33, Try.ntmps33
  go_wp2_with (go_at_call 39; refine (copyCheck_k B b bs _ h).mono ?_)
  rintro e w1 ⟨rfl, h1, hb1, hk1⟩
  obtain ⟨hB, v, hbk, hown, hne⟩ := h1
  have c0 : w1.cell? ⟨b, 0, none⟩ = some (.pointer (some ⟨b, 0, none⟩)) := by rw [Lib.cell_of_heap hbk]; rfl
  have c1 : w1.cell? ⟨b, 1, none⟩ = some v := by rw [Lib.cell_of_heap hbk]; rfl
  go_wp2_with (at_builtin; refine wpList_append_ownF _ rfl _ _ 48 rfl B 5 i0 (.int .u8 0) 1 1 Try.underlying48 hi hz0 hz1 hz2 rfl (by decide) _ _ _ rfl (hown.alloc _) ⟨w1.heap.size, 0, none⟩ 1 1 [.int .u8 c] rfl rfl ?c1 ?c2 ?c3 ?c4 ?c5 ?_)
  case c1 =>
    intro j u hj
    match j, hj with
    | 0, hj => simp at hj; subst hj; simp [Addr.add]
  case c2 => intro u hu; simp at hu; subst hu; rfl
  case c3 => unfold maxLen; omega
  case c4 => omega
  case c5 => have := hb1.size; simp; omega
  intro v' w2 hown' hgrow _
  have hlt : b < w1.heap.size := by
    rcases Nat.lt_or_ge b w1.heap.size with h' | h'
    · exact h'
    · simp [Array.getElem?_eq_none h'] at hbk
  have hb2 : w2.heap[b]? = some (.cells #[.pointer (some ⟨b, 0, none⟩), v] 50 (0, 0)) := by
    rw [hgrow.block b (by simp; omega) (fun e => hne e.symm), Lib.alloc_old w1 _ b hlt]
    exact hbk
  have d0 : w2.cell? ⟨b, 0, none⟩ = some (.pointer (some ⟨b, 0, none⟩)) := by rw [Lib.cell_of_heap hb2]; rfl
  have d1 : w2.cell? ⟨b, 1, none⟩ = some v := by rw [Lib.cell_of_heap hb2]; rfl
  have f1 : w2.frozen? ⟨b, 1, none⟩ = false := Lib.frozen_of_heap hb2 1
  obtain ⟨g, cap, rfl⟩ : ∃ g cap, v' = .slice (some ⟨g, 0, none⟩) (bs.length + 1) cap := by
    rcases hown'.2 with ⟨_, h0⟩ | ⟨g, cap, cur, fz, hv, _⟩
    · omega
    · exact ⟨g, cap, hv⟩
  go_wp2
  go_ret
  refine ⟨rfl, ?_, ?_, ((hk1.alloc _).grown hgrow (Lib.ownsRowF_kind (hown.alloc _))).setCell ⟨b, 1, none⟩ rfl _⟩
  · exact Lib.BuilderAtF.put (T := 50) (e := 5) hB hb2 (bs' := bs ++ [.int .u8 c]) (by simpa using hown') (by decide)
  · exact ((hb1.alloc (by have := hb1.size; omega) _).grown hgrow (by have := hb1.size; simp; omega) (fun k hk => (hown.lt k hk).1)).setCell (p := ⟨b, 1, none⟩) hB _

set_option maxHeartbeats 1000000 in
set_option maxRecDepth 100000 in
theorem reset_at (B b : Nat) (p : Value) (bs : List Value) (w : World) (h : Lib.BuilderAtF 50 5 B b p bs w) :
    Calls Try.prog 35 #[.pointer (some ⟨b, 0, none⟩)] w fun e w' => e = .returned (.tuple #[]) ∧ (Lib.IsBuilderF 50 5 B b [] w' ∧ Below B w w' ∧ Lib.OthersKept 5 (some b) w w') := by
  have hu := h.used (.pointer none)
  obtain ⟨hB, v, hbk, _, _⟩ := hu
  obtain ⟨_, v2, hbk2, _, _⟩ := h
  have c0 : w.cell? ⟨b, 0, none⟩ = some p := by rw [Lib.cell_of_heap hbk2]; rfl
  have c1 : w.cell? ⟨b, 1, none⟩ = some v2 := by rw [Lib.cell_of_heap hbk2]; rfl
  have f0 : w.frozen? ⟨b, 0, none⟩ = false := Lib.frozen_of_heap hbk2 0
  have f1 : w.frozen? ⟨b, 1, none⟩ = false := Lib.frozen_of_heap hbk2 1
  go_enter Try.func35, Try.ntmps35
  go_wp2
  go_end0
  refine ⟨rfl, Or.inl ?_, ?_, ?_⟩
  · exact Lib.BuilderAtF.put (T := 50) (e := 5) hB hbk (bs' := []) (World.ownsRowF_of (World.ownsRow_nil _ _ _ _)) (by decide)
  · exact ((Below.refl B w).setCell (p := ⟨b, 0, none⟩) hB _).setCell (p := ⟨b, 1, none⟩) hB _
  · exact ((Lib.OthersKept.refl _ _ w).setCell ⟨b, 0, none⟩ rfl _).setCell ⟨b, 1, none⟩ rfl _

theorem reset_k (B b : Nat) (bs : List Value) (w : World) (h : Lib.IsBuilderF 50 5 B b bs w) :
    Calls Try.prog 35 #[.pointer (some ⟨b, 0, none⟩)] w fun e w' => e = .returned (.tuple #[]) ∧ (Lib.IsBuilderF 50 5 B b [] w' ∧ Below B w w' ∧ Lib.OthersKept 5 (some b) w w') := by
  rcases h with h | h
  · exact reset_at B b _ bs w h
  · exact reset_at B b _ bs w h

end Go.Proofs.Qxb6001352a.Bld
