import Derived.Test.Qxb6001352aSels
import Derived.WalkKit
import Derived.WalkSpells
namespace Go.Proofs.Qxb6001352a.Sel
open Go.RowKit Go.Proofs.Qxb6001352a.Strs

theorem owns_base {w : World} {B B' : Nat} {e : TypeId} {size : Nat} {v : Value} {n : Nat} {xs : List Value} (h : w.ownsRow B e size v n xs) (hB : B' ≤ B) : w.ownsRow B' e size v n xs := by
  refine ⟨h.1, ?_⟩
  rcases h.2 with hn | ⟨g, cap, cur, hv, hg, r⟩
  · exact .inl hn
  · exact .inr ⟨g, cap, cur, hv, Nat.le_trans hB hg, r⟩

theorem owns_below {w w' : World} {B : Nat} {e : TypeId} {size : Nat} {v : Value} {n : Nat} {xs : List Value} (h : w.ownsRow B e size v n xs) (hb : Below w.heap.size w w') : w'.ownsRow B e size v n xs := by
  refine ⟨h.1, ?_⟩
  rcases h.2 with hn | ⟨g, cap, cur, hv, hg, hh, r⟩
  · exact .inl hn
  · exact .inr ⟨g, cap, cur, hv, hg, (hb.block g (Array.getElem?_eq_some_iff.1 hh).1).trans hh, r⟩

set_option maxHeartbeats 1000000 in
set_option maxRecDepth 100000 in
theorem matches_no (x y b n : ByteArray) (w : World) (h : ¬ x.toList = b.toList) :
    Calls Try.prog 38 #[.agg #[.string x, .string y], .string b, .string n] w fun e w' => e = .returned (.bool false) ∧ Below w.heap.size w w' := by
  have hne : (x.toList == b.toList) = false := by simpa using h
  go_enter Try.func38, Try.ntmps38
  go_wp2
  go_ret
  exact ⟨rfl, (Below.refl _ _).alloc (Nat.le_refl _) _⟩

structure SelAt (w : World) (B : Nat) (a : Option Addr) (m : Nat) (b : ByteArray) : Prop where
  cells : 0 < m → ∃ g, a = some ⟨g, 0, none⟩ ∧ B ≤ g ∧ ∀ i, i < m → ∃ x y : ByteArray, w.cell? ⟨g, i * 2, none⟩ = some (.string x) ∧ w.cell? ⟨g, i * 2 + 1, none⟩ = some (.string y) ∧ ¬ x.toList = b.toList

set_option maxHeartbeats 4000000 in
set_option maxRecDepth 100000 in
theorem selects (a1 a2 : Option Addr) (m1 c1 m2 c2 : Nat) (b n : ByteArray) (w : World) (B1 B2 : Nat) (S1 : SelAt w B1 a1 m1 b) (S2 : SelAt w B2 a2 m2 b) (h1 : m1 ≤ 1048576) (h2 : m2 ≤ 1048576) :
    Calls Try.prog 30 #[.agg #[.slice a1 m1 c1, .slice a2 m2 c2], .string b, .string n] w fun e w' => e = .returned (.bool ((m1 : Int) == 0)) ∧ Below w.heap.size w w' := by
  generalize hinc : ((m1 : Int) == 0) = inc
  have H1 : inc = false ∨ m1 = 0 := by
    by_cases e : m1 = 0
    · exact .inr e
    · left; rw [← hinc]; simp; omega
  go_enter Try.func30, Try.ntmps30
  go_wp2
  go_loopw [7, 19] (fun t i wr => ∃ k : Nat, k ≤ m1 ∧ i = .int .i64 k ∧ t = .bool inc ∧ Below (w.heap.size + 1) (w.alloc (.cells #[.slice a1 m1 c1, .slice a2 m2 c2] 43)) wr) (fun _ i _ => m1 - (intOf i).toNat)
  case atStart => exact ⟨0, Nat.zero_le _, rfl, rfl, Below.refl _ _⟩
  case round =>
    obtain ⟨k, hk, rfl, rfl, hb⟩ := hrel
    have hsz := hb.size
    by_cases hlt : k < m1
    · obtain rfl : inc = false := by rcases H1 with h | h; exact h; omega
      obtain ⟨g, rfl, _, hc⟩ := S1.cells (by omega)
      obtain ⟨x, y, e0, e1, hne⟩ := hc k hlt
      have l0 := cell_lt e0
      have l1 := cell_lt e1
      have d0 : wr.cell? ⟨g, k * 2, none⟩ = some (.string x) := by rw [hb.cell (p := ⟨g, k * 2, none⟩) (by simp at l0 ⊢; omega), World.cell?_alloc_past _ _ _ (by simpa using l0)]; exact e0
      have d1 : wr.cell? ⟨g, k * 2 + 1, none⟩ = some (.string y) := by rw [hb.cell (p := ⟨g, k * 2 + 1, none⟩) (by simp at l1 ⊢; omega), World.cell?_alloc_past _ _ _ (by simpa using l1)]; exact e1
      clear hc e0 e1
      go_wp2_with (go_at_call 38; refine (matches_no x y b n _ hne).mono ?_; rintro e w2 ⟨rfl, hb2⟩)
      go_roundw
      case rel => exact ⟨k + 1, by omega, by go_num, rfl, (hb.alloc (by simp at hsz; omega) _).trans (hb2.mono (by simp at hsz ⊢; omega))⟩
      case measure => simp [intOf]; omega
    · have f1 : wr.cell? ⟨w.heap.size, 1, none⟩ = some (.slice a2 m2 c2) := by rw [hb.cell (p := ⟨w.heap.size, 1, none⟩) (by simp)]; simp
      go_wp2
      go_loopw [34] (fun i wz => ∃ k : Nat, k ≤ m2 ∧ i = .int .i64 k ∧ Below (w.heap.size + 1) (w.alloc (.cells #[.slice a1 m1 c1, .slice a2 m2 c2] 43)) wz) (fun i _ => m2 - (intOf i).toNat)
      case atStart => exact ⟨0, Nat.zero_le _, rfl, hb⟩
      case round =>
        clear hb hsz f1
        obtain ⟨j, hj, rfl, hb⟩ := hrel
        have hsz := hb.size
        by_cases hlt2 : j < m2
        · obtain ⟨g, rfl, _, hc⟩ := S2.cells (by omega)
          obtain ⟨x, y, e0, e1, hne⟩ := hc j hlt2
          have l0 := cell_lt e0
          have l1 := cell_lt e1
          have d0 : wr.cell? ⟨g, j * 2, none⟩ = some (.string x) := by rw [hb.cell (p := ⟨g, j * 2, none⟩) (by simp at l0 ⊢; omega), World.cell?_alloc_past _ _ _ (by simpa using l0)]; exact e0
          have d1 : wr.cell? ⟨g, j * 2 + 1, none⟩ = some (.string y) := by rw [hb.cell (p := ⟨g, j * 2 + 1, none⟩) (by simp at l1 ⊢; omega), World.cell?_alloc_past _ _ _ (by simpa using l1)]; exact e1
          clear hc e0 e1
          go_wp2_with (go_at_call 38; refine (matches_no x y b n _ hne).mono ?_; rintro e w2 ⟨rfl, hb2⟩)
          go_roundw
          case rel => exact ⟨j + 1, by omega, by go_num, (hb.alloc (by simp at hsz; omega) _).trans (hb2.mono (by simp at hsz ⊢; omega))⟩
          case measure => simp [intOf]; omega
        · go_wp2
          go_ret
          exact ⟨rfl, ((Below.refl _ _).alloc (Nat.le_refl _) _).trans (hb.mono (by omega))⟩

theorem SelAt.below {w w' : World} {B : Nat} {a : Option Addr} {m : Nat} {b : ByteArray} (S : SelAt w B a m b) (hb : Below w.heap.size w w') : SelAt w' B a m b := by
  refine ⟨fun h => ?_⟩
  obtain ⟨g, ha, hg, hc⟩ := S.cells h
  refine ⟨g, ha, hg, fun i hi => ?_⟩
  obtain ⟨x, y, e0, e1, hne⟩ := hc i hi
  exact ⟨x, y, (hb.cell (p := ⟨g, i * 2, none⟩) (cell_lt e0)).trans e0, (hb.cell (p := ⟨g, i * 2 + 1, none⟩) (cell_lt e1)).trans e1, hne⟩

theorem cell_set {w : World} {p q : Addr} {v : Value} (h : p.block ≠ q.block) : (w.setCell q v).cell? p = w.cell? p :=
  World.cell?_of_block (Below.heap_setCell w q v p.block h)

theorem SelAt.setCell {w : World} {B : Nat} {a : Option Addr} {m : Nat} {b : ByteArray} (S : SelAt w B a m b) {p : Addr} (hp : p.block < B) (v : Value) : SelAt (w.setCell p v) B a m b := by
  refine ⟨fun h => ?_⟩
  obtain ⟨g, ha, hg, hc⟩ := S.cells h
  refine ⟨g, ha, hg, fun i hi => ?_⟩
  obtain ⟨x, y, e0, e1, hne⟩ := hc i hi
  exact ⟨x, y, (cell_set (by simp; omega)).trans e0, (cell_set (by simp; omega)).trans e1, hne⟩

theorem pairs_get (bs ns : List ByteArray) : ∀ i (h0 : i < bs.length) (h1 : i < ns.length), (pairs bs ns)[i * 2]? = some (.string bs[i]) ∧ (pairs bs ns)[i * 2 + 1]? = some (.string ns[i]) := by
  induction bs generalizing ns with
  | nil => intro i h0; simp at h0
  | cons x bs ih =>
    intro i h0 h1
    cases ns with
    | nil => simp at h1
    | cons y ns =>
      have e : pairs (x :: bs) (y :: ns) = .string x :: .string y :: pairs bs ns := by simp [pairs]
      rw [e]
      cases i with
      | zero => simp
      | succ i =>
        have := ih ns i (by simpa using h0) (by simpa using h1)
        rw [show (i + 1) * 2 = i * 2 + 1 + 1 from by omega]
        simpa using this

theorem owned_sel {w : World} {B m : Nat} {v : Value} {s0 s1 : List ByteArray} {b : ByteArray} (ho : w.ownsRow B 57 2 v m (pairs (s0.take m) (s1.take m))) (h0 : m ≤ s0.length) (h1 : m ≤ s1.length) (hb : ∀ i (h : i < s0.length), i < m → ¬ (s0[i]).toList = b.toList) :
    ∃ a c, v = .slice a m c ∧ SelAt w B a m b := by
  rcases ho.2 with ⟨rfl, rfl⟩ | ⟨g, cap, cur, rfl, hBg, _⟩
  · exact ⟨none, 0, rfl, ⟨fun h => absurd h (by omega)⟩⟩
  · refine ⟨_, cap, rfl, ⟨fun _ => ⟨g, rfl, hBg, fun i hi => ?_⟩⟩⟩
    obtain ⟨p0, p1⟩ := pairs_get (s0.take m) (s1.take m) i (by simp; omega) (by simp; omega)
    refine ⟨s0[i], s1[i], ?_, ?_, hb i (by omega) hi⟩
    · rw [ho.cellAt (i * 2) (by omega), p0]; simp
    · rw [ho.cellAt (i * 2 + 1) (by omega), p1]; simp

theorem sels_at (a0 a1 : Option Addr) (n0 c0 n1 c1 m : Nat) (s0 s1 : List ByteArray) (b : ByteArray) (w : World) (S0 : StrsAt w a0 n0 c0 s0) (S1 : StrsAt w a1 n1 c1 s1) (h0 : n0 ≤ 1048576) (h1 : n1 ≤ 1048576) (hm : (n1 < n0 → m = n1) ∧ (¬ n1 < n0 → m = n0))
    (hb : ∀ i (h : i < s0.length), i < m → ¬ (s0[i]).toList = b.toList) :
    Calls Try.prog 37 #[.slice a0 n0 c0, .slice a1 n1 c1] w fun e w' => ∃ a c, e = .returned (.slice a m c) ∧ SelAt w' w.heap.size a m b ∧ Below w.heap.size w w' := by
  refine (sels a0 a1 n0 c0 n1 c1 m s0 s1 w S0 S1 h0 h1 hm).mono ?_
  rintro e w' ⟨v, rfl, ho, hB⟩
  have l0 := S0.len
  have l1 := S1.len
  have hm0 : m ≤ n0 := by by_cases h : n1 < n0 <;> simp [h] at hm <;> omega
  have hm1 : m ≤ n1 := by by_cases h : n1 < n0 <;> simp [h] at hm <;> omega
  obtain ⟨a, c, rfl, S⟩ := owned_sel ho (by omega) (by omega) hb
  exact ⟨a, c, rfl, S, hB⟩

set_option maxHeartbeats 1000000 in
set_option maxRecDepth 100000 in
theorem filter (a0 a1 a2 a3 : Option Addr) (n0 c0 n1 c1 n2 c2 n3 c3 m m' : Nat) (s0 s1 s2 s3 : List ByteArray) (b : ByteArray) (w : World)
    (S0 : StrsAt w a0 n0 c0 s0) (S1 : StrsAt w a1 n1 c1 s1) (S2 : StrsAt w a2 n2 c2 s2) (S3 : StrsAt w a3 n3 c3 s3)
    (h0 : n0 ≤ 1048576) (h1 : n1 ≤ 1048576) (h2 : n2 ≤ 1048576) (h3 : n3 ≤ 1048576) (hm : (n1 < n0 → m = n1) ∧ (¬ n1 < n0 → m = n0)) (hm' : (n3 < n2 → m' = n3) ∧ (¬ n3 < n2 → m' = n2))
    (hb : ∀ i (h : i < s0.length), i < m → ¬ (s0[i]).toList = b.toList) (hb' : ∀ i (h : i < s2.length), i < m' → ¬ (s2[i]).toList = b.toList) :
    Calls Try.prog 28 #[.slice a0 n0 c0, .slice a1 n1 c1, .slice a2 n2 c2, .slice a3 n3 c3] w fun e w' => ∃ a c a' c', e = .returned (.agg #[.slice a m c, .slice a' m' c']) ∧ (∃ B, SelAt w' B a m b) ∧ (∃ B, SelAt w' B a' m' b) ∧ Below w.heap.size w w' := by
  have HM : Hid ((n1 < n0 → m = n1) ∧ (¬ n1 < n0 → m = n0)) := hm
  have HM' : Hid ((n3 < n2 → m' = n3) ∧ (¬ n3 < n2 → m' = n2)) := hm'
  have HB : Hid (∀ i (h : i < s0.length), i < m → ¬ (s0[i]).toList = b.toList) := hb
  have HB' : Hid (∀ i (h : i < s2.length), i < m' → ¬ (s2[i]).toList = b.toList) := hb'
  clear hm hm' hb hb'
  have hA : Below w.heap.size w (w.alloc (.cells #[.slice none 0 0, .slice none 0 0] 43)) := (Below.refl _ _).alloc (Nat.le_refl _) _
  go_enter Try.func28, Try.ntmps28
  go_wp2_with fail
  refine (sels_at a0 a1 n0 c0 n1 c1 m s0 s1 b _ (S0.below hA) (S1.below hA) h0 h1 HM.out HB.out).mono ?_
  rintro e w1 ⟨x1, y1, rfl, T1, B1⟩
  have hA1 := hA.trans (B1.mono (by simp))
  go_wp2_with fail
  refine (sels_at a2 a3 n2 c2 n3 c3 m' s2 s3 b _ (S2.below hA1) (S3.below hA1) h2 h3 HM'.out HB'.out).mono ?_
  rintro e w2 ⟨x2, y2, rfl, T2, B2⟩
  have hA2 := hA1.trans (B2.mono hA1.size)
  have hb12 : Below (w.heap.size + 1) (w.alloc (.cells #[.slice none 0 0, .slice none 0 0] 43)) w2 := by
    have := B1.trans (B2.mono (by have := B1.size; simpa using this))
    simpa using this
  have q0 : w2.cell? ⟨w.heap.size, 0, none⟩ = some (.slice none 0 0) := by rw [hb12.cell (p := ⟨w.heap.size, 0, none⟩) (by simp)]; simp
  have q1 : w2.cell? ⟨w.heap.size, 1, none⟩ = some (.slice none 0 0) := by rw [hb12.cell (p := ⟨w.heap.size, 1, none⟩) (by simp)]; simp
  have q2 : w2.frozen? ⟨w.heap.size, 0, none⟩ = false := by rw [hb12.frozen (p := ⟨w.heap.size, 0, none⟩) (by simp)]; simp
  have q3 : w2.frozen? ⟨w.heap.size, 1, none⟩ = false := by rw [hb12.frozen (p := ⟨w.heap.size, 1, none⟩) (by simp)]; simp
  have T1' := T1.below B2
  have z1 : w.heap.size < (w.alloc (.cells #[.slice none 0 0, .slice none 0 0] 43)).heap.size := by simp
  have z2 : w.heap.size < w1.heap.size := Nat.lt_of_lt_of_le z1 B1.size
  have T1s := (T1'.setCell (p := ⟨w.heap.size, 0, none⟩) z1 (.slice x1 m y1)).setCell (p := ⟨w.heap.size, 1, none⟩) z1 (.slice x2 m' y2)
  have T2s := (T2.setCell (p := ⟨w.heap.size, 0, none⟩) z2 (.slice x1 m y1)).setCell (p := ⟨w.heap.size, 1, none⟩) z2 (.slice x2 m' y2)
  have hA3 := (hA2.setCell (p := ⟨w.heap.size, 0, none⟩) (Nat.le_refl _) (.slice x1 m y1)).setCell (p := ⟨w.heap.size, 1, none⟩) (Nat.le_refl _) (.slice x2 m' y2)
  clear hb12 hA hA1 B1 B2 T1 T1' T2 hA2 z1 z2 S0 S1 S2 S3
  go_wp2
  refine bodyPost_ret (v := .agg #[.slice x1 m y1, .slice x2 m' y2]) ?_ rfl ⟨_, _, _, _, rfl, ⟨_, T1s⟩, ⟨_, T2s⟩, hA3⟩
  have r0 : ((w2.setCell ⟨w.heap.size, 0, none⟩ (.slice x1 m y1)).setCell ⟨w.heap.size, 1, none⟩ (.slice x2 m' y2)).cell? ⟨w.heap.size, 0, none⟩ = some (.slice x1 m y1) := by
    rw [World.cell?_setCell_other _ _ _ _ (by simp)]
    exact World.cell?_setCell_same _ _ _ q0
  have r1 : ((w2.setCell ⟨w.heap.size, 0, none⟩ (.slice x1 m y1)).setCell ⟨w.heap.size, 1, none⟩ (.slice x2 m' y2)).cell? ⟨w.heap.size, 1, none⟩ = some (.slice x2 m' y2) :=
    World.cell?_setCell_same _ _ _ ((World.cell?_setCell_other _ _ _ _ (by simp)).trans q1)
  simp [results, Try.results28, go_sem, r0, r1]

end Go.Proofs.Qxb6001352a.Sel
