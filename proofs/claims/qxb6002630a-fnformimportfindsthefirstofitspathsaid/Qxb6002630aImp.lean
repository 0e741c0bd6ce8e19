import Derived.Test.Qxb6002630aStrs
import Derived.Test.Qxb6002630aItoa
import Derived.WalkKit
import Derived.WalkSpells
namespace Go.Proofs.Qxb6002630a.Form
open Go.RowKit Go.Proofs.Qxb6002630a.Dec Go.Proofs.Qxb6002630a.Strs

structure ImpsAt (w : World) (a : Option Addr) (n : Nat) (ss : List ByteArray) : Prop where
  len : ss.length = n
  cells : 0 < n → ∃ g, a = some ⟨g, 0, none⟩ ∧ ∀ i (h : i < ss.length), w.cell? ⟨g, i * 6, none⟩ = some (.string ss[i]) ∧ w.cell? ⟨g, i * 6 + 1, none⟩ = some (.string ⟨#[]⟩) ∧ w.cell? ⟨g, i * 6 + 2, none⟩ = some (.string ⟨#[]⟩) ∧
    w.cell? ⟨g, i * 6 + 3, none⟩ = some (.string ⟨#[]⟩) ∧ w.cell? ⟨g, i * 6 + 4, none⟩ = some (.string ⟨(dec i).toArray⟩) ∧ w.cell? ⟨g, i * 6 + 5, none⟩ = some (.slice none 0 0)

theorem ne_off {b o o' : Nat} (h : o ≠ o') : (⟨b, o, none⟩ : Addr) ≠ ⟨b, o', none⟩ := fun e => h (congrArg Addr.off e)

def six (w : World) (b o0 o1 o2 o3 o4 o5 : Nat) (v0 v1 v2 v3 v4 v5 : Value) : World :=
  (((((w.setCell ⟨b, o0, none⟩ v0).setCell ⟨b, o1, none⟩ v1).setCell ⟨b, o2, none⟩ v2).setCell ⟨b, o3, none⟩ v3).setCell ⟨b, o4, none⟩ v4).setCell ⟨b, o5, none⟩ v5

theorem six_get {w : World} {b o0 o1 o2 o3 o4 o5 : Nat} {x0 x1 x2 x3 x4 x5 : Value} (v0 v1 v2 v3 v4 v5 : Value) (hd : o0 < o1 ∧ o1 < o2 ∧ o2 < o3 ∧ o3 < o4 ∧ o4 < o5)
    (c0 : w.cell? ⟨b, o0, none⟩ = some x0) (c1 : w.cell? ⟨b, o1, none⟩ = some x1) (c2 : w.cell? ⟨b, o2, none⟩ = some x2) (c3 : w.cell? ⟨b, o3, none⟩ = some x3) (c4 : w.cell? ⟨b, o4, none⟩ = some x4) (c5 : w.cell? ⟨b, o5, none⟩ = some x5) :
    (six w b o0 o1 o2 o3 o4 o5 v0 v1 v2 v3 v4 v5).cell? ⟨b, o0, none⟩ = some v0 ∧ (six w b o0 o1 o2 o3 o4 o5 v0 v1 v2 v3 v4 v5).cell? ⟨b, o1, none⟩ = some v1 ∧ (six w b o0 o1 o2 o3 o4 o5 v0 v1 v2 v3 v4 v5).cell? ⟨b, o2, none⟩ = some v2 ∧
    (six w b o0 o1 o2 o3 o4 o5 v0 v1 v2 v3 v4 v5).cell? ⟨b, o3, none⟩ = some v3 ∧ (six w b o0 o1 o2 o3 o4 o5 v0 v1 v2 v3 v4 v5).cell? ⟨b, o4, none⟩ = some v4 ∧ (six w b o0 o1 o2 o3 o4 o5 v0 v1 v2 v3 v4 v5).cell? ⟨b, o5, none⟩ = some v5 := by
  obtain ⟨h1, h2, h3, h4, h5⟩ := hd
  unfold six
  refine ⟨?_, ?_, ?_, ?_, ?_, ?_⟩
  · skip
    rw [World.cell?_setCell_other _ _ _ _ (ne_off (by omega)), World.cell?_setCell_other _ _ _ _ (ne_off (by omega)), World.cell?_setCell_other _ _ _ _ (ne_off (by omega)), World.cell?_setCell_other _ _ _ _ (ne_off (by omega)), World.cell?_setCell_other _ _ _ _ (ne_off (by omega))]
    exact World.cell?_setCell_same _ _ _ c0
  · skip
    rw [World.cell?_setCell_other _ _ _ _ (ne_off (by omega)), World.cell?_setCell_other _ _ _ _ (ne_off (by omega)), World.cell?_setCell_other _ _ _ _ (ne_off (by omega)), World.cell?_setCell_other _ _ _ _ (ne_off (by omega))]
    refine World.cell?_setCell_same _ _ _ (u := x1) ?_
    rw [World.cell?_setCell_other _ _ _ _ (ne_off (by omega))]
    exact c1
  · skip
    rw [World.cell?_setCell_other _ _ _ _ (ne_off (by omega)), World.cell?_setCell_other _ _ _ _ (ne_off (by omega)), World.cell?_setCell_other _ _ _ _ (ne_off (by omega))]
    refine World.cell?_setCell_same _ _ _ (u := x2) ?_
    rw [World.cell?_setCell_other _ _ _ _ (ne_off (by omega)), World.cell?_setCell_other _ _ _ _ (ne_off (by omega))]
    exact c2
  · skip
    rw [World.cell?_setCell_other _ _ _ _ (ne_off (by omega)), World.cell?_setCell_other _ _ _ _ (ne_off (by omega))]
    refine World.cell?_setCell_same _ _ _ (u := x3) ?_
    rw [World.cell?_setCell_other _ _ _ _ (ne_off (by omega)), World.cell?_setCell_other _ _ _ _ (ne_off (by omega)), World.cell?_setCell_other _ _ _ _ (ne_off (by omega))]
    exact c3
  · skip
    rw [World.cell?_setCell_other _ _ _ _ (ne_off (by omega))]
    refine World.cell?_setCell_same _ _ _ (u := x4) ?_
    rw [World.cell?_setCell_other _ _ _ _ (ne_off (by omega)), World.cell?_setCell_other _ _ _ _ (ne_off (by omega)), World.cell?_setCell_other _ _ _ _ (ne_off (by omega)), World.cell?_setCell_other _ _ _ _ (ne_off (by omega))]
    exact c4
  · skip
    refine World.cell?_setCell_same _ _ _ (u := x5) ?_
    rw [World.cell?_setCell_other _ _ _ _ (ne_off (by omega)), World.cell?_setCell_other _ _ _ _ (ne_off (by omega)), World.cell?_setCell_other _ _ _ _ (ne_off (by omega)), World.cell?_setCell_other _ _ _ _ (ne_off (by omega)), World.cell?_setCell_other _ _ _ _ (ne_off (by omega))]
    exact c5

theorem six_below {B : Nat} {a w : World} (h : Below B a w) {b : Nat} (hb : B ≤ b) (o0 o1 o2 o3 o4 o5 : Nat) (v0 v1 v2 v3 v4 v5 : Value) : Below B a (six w b o0 o1 o2 o3 o4 o5 v0 v1 v2 v3 v4 v5) :=
  (((((h.setCell (p := ⟨b, o0, none⟩) hb v0).setCell (p := ⟨b, o1, none⟩) hb v1).setCell (p := ⟨b, o2, none⟩) hb v2).setCell (p := ⟨b, o3, none⟩) hb v3).setCell (p := ⟨b, o4, none⟩) hb v4).setCell (p := ⟨b, o5, none⟩) hb v5

theorem six_size (w : World) (b o0 o1 o2 o3 o4 o5 : Nat) (v0 v1 v2 v3 v4 v5 : Value) : (six w b o0 o1 o2 o3 o4 o5 v0 v1 v2 v3 v4 v5).heap.size = w.heap.size := by
  simp [six, World.setCell]

set_option maxHeartbeats 4000000 in
set_option maxRecDepth 100000 in
theorem import_is (a : Option Addr) (n c : Nat) (ss : List ByteArray) (path : ByteArray) (w : World) (I : ImpsAt w a n ss) (hn : n ≤ 4096) :
    Calls Try.prog 14 #[.agg #[.string ⟨#[]⟩, .string ⟨#[]⟩, .string ⟨#[]⟩, .slice none 0 0, .string ⟨#[]⟩, .string ⟨#[]⟩, .string ⟨#[]⟩, .string ⟨#[]⟩, .slice none 0 0, .slice a n c], .string path] w fun e w' =>
      ((∃ (j : Nat) (h : j < ss.length), ss[j].toList = path.toList ∧ Hid (∀ i (h : i < ss.length), i < j → ¬ ss[i].toList = path.toList) ∧ e = .returned (.tuple #[.agg #[.string ss[j], .string ⟨#[]⟩, .string ⟨#[]⟩, .string ⟨#[]⟩, .string ⟨(dec j).toArray⟩, .slice none 0 0], .bool true])) ∨
       (Hid (∀ i (h : i < ss.length), ¬ ss[i].toList = path.toList) ∧ e = .returned (.tuple #[.agg #[.string ⟨#[]⟩, .string ⟨#[]⟩, .string ⟨#[]⟩, .string ⟨#[]⟩, .string ⟨#[]⟩, .slice none 0 0], .bool false]))) ∧ Below w.heap.size w w' := by
  go_enter Try.func14, Try.ntmps14
  go_wp2
  go_loopw [11] (fun i wr => ∃ k : Nat, k ≤ n ∧ i = .int .i64 k ∧ Hid (∀ i (h : i < ss.length), i < k → ¬ ss[i].toList = path.toList) ∧
    Below (w.heap.size + 2) ((w.alloc (.cells #[.string ⟨#[]⟩, .string ⟨#[]⟩, .string ⟨#[]⟩, .slice none 0 0, .string ⟨#[]⟩, .string ⟨#[]⟩, .string ⟨#[]⟩, .string ⟨#[]⟩, .slice none 0 0, .slice a n c] 39)).alloc (.cells #[.string ⟨#[]⟩, .string ⟨#[]⟩, .string ⟨#[]⟩, .string ⟨#[]⟩, .string ⟨#[]⟩, .slice none 0 0] 35)) wr) (fun i _ => n - (intOf i).toNat)
  case atStart => exact ⟨0, Nat.zero_le _, rfl, fun i h h' => absurd h' (by omega), Below.refl _ _⟩
  case round =>
    obtain ⟨k, hk, rfl, HN, hb⟩ := hrel
    have hsz := hb.size
    simp only [World.size_alloc] at hsz
    have q0 : wr.cell? ⟨w.heap.size + 1, 0, none⟩ = some (.string ⟨#[]⟩) := by rw [hb.cell (p := ⟨w.heap.size + 1, 0, none⟩) (by simp)]; rw [World.cell?_alloc_at _ _ _ _ (by simp)]; rfl
    have q1 : wr.cell? ⟨w.heap.size + 1, 1, none⟩ = some (.string ⟨#[]⟩) := by rw [hb.cell (p := ⟨w.heap.size + 1, 1, none⟩) (by simp)]; rw [World.cell?_alloc_at _ _ _ _ (by simp)]; rfl
    have q2 : wr.cell? ⟨w.heap.size + 1, 2, none⟩ = some (.string ⟨#[]⟩) := by rw [hb.cell (p := ⟨w.heap.size + 1, 2, none⟩) (by simp)]; rw [World.cell?_alloc_at _ _ _ _ (by simp)]; rfl
    have q3 : wr.cell? ⟨w.heap.size + 1, 3, none⟩ = some (.string ⟨#[]⟩) := by rw [hb.cell (p := ⟨w.heap.size + 1, 3, none⟩) (by simp)]; rw [World.cell?_alloc_at _ _ _ _ (by simp)]; rfl
    have q4 : wr.cell? ⟨w.heap.size + 1, 4, none⟩ = some (.string ⟨#[]⟩) := by rw [hb.cell (p := ⟨w.heap.size + 1, 4, none⟩) (by simp)]; rw [World.cell?_alloc_at _ _ _ _ (by simp)]; rfl
    have q5 : wr.cell? ⟨w.heap.size + 1, 5, none⟩ = some (.slice none 0 0) := by rw [hb.cell (p := ⟨w.heap.size + 1, 5, none⟩) (by simp)]; rw [World.cell?_alloc_at _ _ _ _ (by simp)]; rfl
    have z : ∀ j, wr.frozen? ⟨w.heap.size + 1, j, none⟩ = false := by
      intro j
      rw [hb.frozen (p := ⟨w.heap.size + 1, j, none⟩) (by simp)]
      exact frozen_of_row _ _ _ _ _ (by have := heap_alloc_new (w.alloc (.cells #[.string ⟨#[]⟩, .string ⟨#[]⟩, .string ⟨#[]⟩, .slice none 0 0, .string ⟨#[]⟩, .string ⟨#[]⟩, .string ⟨#[]⟩, .string ⟨#[]⟩, .slice none 0 0, .slice a n c] 39)) (.cells #[.string ⟨#[]⟩, .string ⟨#[]⟩, .string ⟨#[]⟩, .string ⟨#[]⟩, .string ⟨#[]⟩, .slice none 0 0] 35); simpa using this)
    have z0 := z 0
    have z1 := z 1
    have z2 := z 2
    have z3 := z 3
    have z4 := z 4
    have z5 := z 5
    clear z
    by_cases hlt : k < n
    · obtain ⟨g, rfl, hc⟩ := I.cells (by omega)
      have hkl : k < ss.length := by rw [I.len]; exact hlt
      obtain ⟨e0, e1, e2, e3, e4, e5⟩ := hc k hkl
      have HS : Hid (¬ ss[k].toList = path.toList → ∀ i (h : i < ss.length), i < k + 1 → ¬ ss[i].toList = path.toList) := by
        intro hne i h hi
        by_cases e : i = k
        · subst e; exact hne
        · exact HN.out i h (by omega)
      have hb0 : Below w.heap.size w wr := (((Below.refl _ w).alloc (Nat.le_refl _) _).alloc (by simp) _).trans (hb.mono (by omega))
      have f0 := (hb0.cell (p := ⟨g, k * 6, none⟩) (cell_lt e0)).trans e0
      have f1 := (hb0.cell (p := ⟨g, k * 6 + 1, none⟩) (cell_lt e1)).trans e1
      have f2 := (hb0.cell (p := ⟨g, k * 6 + 2, none⟩) (cell_lt e2)).trans e2
      have f3 := (hb0.cell (p := ⟨g, k * 6 + 3, none⟩) (cell_lt e3)).trans e3
      have f4 := (hb0.cell (p := ⟨g, k * 6 + 4, none⟩) (cell_lt e4)).trans e4
      have f5 := (hb0.cell (p := ⟨g, k * 6 + 5, none⟩) (cell_lt e5)).trans e5
      clear hc e0 e1 e2 e3 e4 e5 I
      by_cases he : ss[k].toList = path.toList
      · have he' : (ss[k].toList == path.toList) = true := by simpa using he
        have HE : Hid (ss[k].toList = path.toList) := he
        have hw1 : w.heap.size + 1 < wr.heap.size := by omega
        clear he
        obtain ⟨r0, r1, r2, r3, r4, r5⟩ := six_get (.string ss[k]) (.string ⟨#[]⟩) (.string ⟨#[]⟩) (.string ⟨#[]⟩) (.string ⟨(dec k).toArray⟩) (.slice none 0 0) (by omega) q0 q1 q2 q3 q4 q5
        have hbF := (six_below hb0 (b := w.heap.size + 1) (by omega) 0 1 2 3 4 5 (.string ss[k]) (.string ⟨#[]⟩) (.string ⟨#[]⟩) (.string ⟨#[]⟩) (.string ⟨(dec k).toArray⟩) (.slice none 0 0)).alloc (by rw [six_size]; omega) (.cells #[.string ss[k], .string ⟨#[]⟩, .string ⟨#[]⟩, .string ⟨#[]⟩, .string ⟨(dec k).toArray⟩, .slice none 0 0] 35)
        have past : ∀ j, ((six wr (w.heap.size + 1) 0 1 2 3 4 5 (.string ss[k]) (.string ⟨#[]⟩) (.string ⟨#[]⟩) (.string ⟨#[]⟩) (.string ⟨(dec k).toArray⟩) (.slice none 0 0)).alloc (.cells #[.string ss[k], .string ⟨#[]⟩, .string ⟨#[]⟩, .string ⟨#[]⟩, .string ⟨(dec k).toArray⟩, .slice none 0 0] 35)).cell? ⟨w.heap.size + 1, j, none⟩ = (six wr (w.heap.size + 1) 0 1 2 3 4 5 (.string ss[k]) (.string ⟨#[]⟩) (.string ⟨#[]⟩) (.string ⟨#[]⟩) (.string ⟨(dec k).toArray⟩) (.slice none 0 0)).cell? ⟨w.heap.size + 1, j, none⟩ :=
          fun j => World.cell?_alloc_past _ _ _ (by rw [six_size]; omega)
        have s0 := (past 0).trans r0
        have s1 := (past 1).trans r1
        have s2 := (past 2).trans r2
        have s3 := (past 3).trans r3
        have s4 := (past 4).trans r4
        have s5 := (past 5).trans r5
        clear past r0 r1 r2 r3 r4 r5
        simp only [six] at s0 s1 s2 s3 s4 s5
        go_wp2
        refine bodyPost_ret (v := .tuple #[.agg #[.string ss[k], .string ⟨#[]⟩, .string ⟨#[]⟩, .string ⟨#[]⟩, .string ⟨(dec k).toArray⟩, .slice none 0 0], .bool true]) ?_ rfl ⟨.inl ⟨k, hkl, HE.out, HN, rfl⟩, hbF⟩
        simp [results, Try.results14, go_sem, s0, s1, s2, s3, s4, s5]
      · have he' : (ss[k].toList == path.toList) = false := by simpa using he
        go_wp2
        go_roundw
        case rel => exact ⟨k + 1, by omega, by go_num, HS.out he, hb.alloc (by omega) _⟩
        case measure => simp [intOf]; omega
    · have hb0 : Below w.heap.size w wr := (((Below.refl _ w).alloc (Nat.le_refl _) _).alloc (by simp) _).trans (hb.mono (by omega))
      have HZ : Hid (∀ i (h : i < ss.length), ¬ ss[i].toList = path.toList) := fun i h => HN.out i h (by have := I.len; omega)
      obtain ⟨s0, s1, s2, s3, s4, s5⟩ := six_get (.string ⟨#[]⟩) (.string ⟨#[]⟩) (.string ⟨#[]⟩) (.string ⟨#[]⟩) (.string ⟨#[]⟩) (.slice none 0 0) (by omega) q0 q1 q2 q3 q4 q5
      have hbF := six_below hb0 (b := w.heap.size + 1) (by omega) 0 1 2 3 4 5 (.string ⟨#[]⟩) (.string ⟨#[]⟩) (.string ⟨#[]⟩) (.string ⟨#[]⟩) (.string ⟨#[]⟩) (.slice none 0 0)
      simp only [six] at s0 s1 s2 s3 s4 s5
      go_wp2
      refine bodyPost_ret (v := .tuple #[.agg #[.string ⟨#[]⟩, .string ⟨#[]⟩, .string ⟨#[]⟩, .string ⟨#[]⟩, .string ⟨#[]⟩, .slice none 0 0], .bool false]) ?_ rfl ⟨.inr ⟨HZ, rfl⟩, hbF⟩
      simp [results, Try.results14, go_sem, s0, s1, s2, s3, s4, s5]

end Go.Proofs.Qxb6002630a.Form
