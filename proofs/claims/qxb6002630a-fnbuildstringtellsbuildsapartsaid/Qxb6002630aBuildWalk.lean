import Derived.Test.Qxb6002630aBuild
import Derived.WalkKit
namespace Go.Proofs.Qxb6002630a.Build
open Go.RowKit Go.Proofs.Qxb6002630a.Txt

set_option maxHeartbeats 4000000 in
set_option maxRecDepth 100000 in
theorem bytes6_no (v1 p1 m1 v2 p2 m2 : ByteArray) (w : World) (k1 : v1.size ≤ maxLen) (k2 : p1.size ≤ maxLen) (k3 : m1.size ≤ maxLen) (k4 : v2.size ≤ maxLen) (k5 : p2.size ≤ maxLen) (k6 : m2.size ≤ maxLen)
    (h : ¬ (v1.size : Int) + (p1.size : Int) + (m1.size : Int) + (v2.size : Int) + (p2.size : Int) + (m2.size : Int) ≤ 1048576) :
    Calls Try.prog 6 #[.string v1, .string p1, .string m1, .string v2, .string p2, .string m2] w fun e w' => e = .returned (.bool false) ∧ w' = w := by
  unfold maxLen at k1 k2 k3 k4 k5 k6
  go_enter Try.func6, Try.ntmps6
  go_wp2
  all_goals
    go_ret
    exact ⟨rfl, rfl⟩

set_option maxHeartbeats 4000000 in
set_option maxRecDepth 100000 in
theorem bytes6_yes (v1 p1 m1 v2 p2 m2 : ByteArray) (w : World)
    (h : (v1.size : Int) + (p1.size : Int) + (m1.size : Int) + (v2.size : Int) + (p2.size : Int) + (m2.size : Int) ≤ 1048576) :
    Calls Try.prog 6 #[.string v1, .string p1, .string m1, .string v2, .string p2, .string m2] w fun e w' => e = .returned (.bool true) ∧ w' = w := by
  go_enter Try.func6, Try.ntmps6
  go_wp2
  go_ret
  exact ⟨rfl, rfl⟩

theorem eq_bytes (v1 p1 m1 v2 p2 m2 R1 R2 : ByteArray) (e1 : R1.data.toList = txt v1.data.toList p1.data.toList m1.data.toList) (e2 : R2.data.toList = txt v2.data.toList p2.data.toList m2.data.toList)
    (h1 : 32 ∉ v1.data.toList) (h2 : 32 ∉ p1.data.toList) (h3 : 32 ∉ v2.data.toList) (h4 : 32 ∉ p2.data.toList) :
    (R1.toList == R2.toList) = ((v1.toList == v2.toList) && (p1.toList == p2.toList) && (m1.toList == m2.toList)) := by
  rw [Bool.eq_iff_iff]
  simp only [Bool.and_eq_true, beq_iff_eq, ByteArray.toList_eq, e1, e2]
  rw [txt_inj _ _ _ _ _ _ h1 h2 h3 h4]
  constructor
  · rintro ⟨a, b, c⟩; exact ⟨⟨a, b⟩, c⟩
  · rintro ⟨⟨a, b⟩, c⟩; exact ⟨a, b, c⟩

theorem mode_is (m : ByteArray) (b : Bool) (h : (m.toList == [100, 101, 102, 97, 117, 108, 116]) = b) : (m.data.toList = dflt) ↔ b = true := by
  rw [← h, ← ByteArray.toList_eq, beq_iff_eq]
  rfl

set_option maxHeartbeats 8000000 in
set_option maxRecDepth 100000 in
theorem walk (v1 p1 m1 v2 p2 m2 : ByteArray) (k1 : v1.size ≤ maxLen) (k2 : p1.size ≤ maxLen) (k3 : m1.size ≤ maxLen) (k4 : v2.size ≤ maxLen) (k5 : p2.size ≤ maxLen) (k6 : m2.size ≤ maxLen) (w : World) :
    Calls Try.prog 3 #[.string v1, .string p1, .string m1, .string v2, .string p2, .string m2] w fun e w' => e = .returned (.bool true) ∧ Grown w w' := by
  by_cases hT : (v1.size : Int) + (p1.size : Int) + (m1.size : Int) + (v2.size : Int) + (p2.size : Int) + (m2.size : Int) ≤ 1048576
  · have g1 : v1.size ≤ 1048576 := by omega
    have g2 : p1.size ≤ 1048576 := by omega
    have g3 : m1.size ≤ 1048576 := by omega
    have g4 : v2.size ≤ 1048576 := by omega
    have g5 : p2.size ≤ 1048576 := by omega
    have g6 : m2.size ≤ 1048576 := by omega
    have d1 : decide ((1048576 : Int) < (v1.size : Int)) = false := decide_eq_false (by omega)
    have d2 : decide ((1048576 : Int) < (p1.size : Int)) = false := decide_eq_false (by omega)
    have d3 : decide ((1048576 : Int) < (m1.size : Int)) = false := decide_eq_false (by omega)
    have d4 : decide ((1048576 : Int) < (v2.size : Int)) = false := decide_eq_false (by omega)
    have d5 : decide ((1048576 : Int) < (p2.size : Int)) = false := decide_eq_false (by omega)
    have d6 : decide ((1048576 : Int) < (m2.size : Int)) = false := decide_eq_false (by omega)
    have d7 : decide ((1048576 : Int) < (v1.size : Int) + (p1.size : Int) + (m1.size : Int) + (v2.size : Int) + (p2.size : Int) + (m2.size : Int)) = false := decide_eq_false (by omega)
    obtain ⟨b1, B1⟩ : ∃ b, Hid (decide (32 ∈ v1.data.toList) = b) := ⟨_, rfl⟩
    obtain ⟨b2, B2⟩ : ∃ b, Hid (decide (32 ∈ p1.data.toList) = b) := ⟨_, rfl⟩
    obtain ⟨b3, B3⟩ : ∃ b, Hid (decide (32 ∈ m1.data.toList) = b) := ⟨_, rfl⟩
    obtain ⟨b4, B4⟩ : ∃ b, Hid (decide (32 ∈ v2.data.toList) = b) := ⟨_, rfl⟩
    obtain ⟨b5, B5⟩ : ∃ b, Hid (decide (32 ∈ p2.data.toList) = b) := ⟨_, rfl⟩
    obtain ⟨b6, B6⟩ : ∃ b, Hid (decide (32 ∈ m2.data.toList) = b) := ⟨_, rfl⟩
    go_enter Try.func3, Try.ntmps3
    go_wp2_with fail
    refine (bytes6_yes v1 p1 m1 v2 p2 m2 _ hT).mono ?_
    rintro e w1 ⟨rfl, rfl⟩
    go_wp2_with fail
    refine (hasByte v1 b1 B1 g1 _).mono ?_
    rintro e w1 ⟨rfl, rfl⟩
    cases b1
    case true =>
      go_wp2
      go_ret
      exact ⟨rfl, Grown.refl _⟩
    go_wp2_with fail
    refine (hasByte p1 b2 B2 g2 _).mono ?_
    rintro e w1 ⟨rfl, rfl⟩
    cases b2
    case true =>
      go_wp2
      go_ret
      exact ⟨rfl, Grown.refl _⟩
    go_wp2_with fail
    refine (hasByte m1 b3 B3 g3 _).mono ?_
    rintro e w1 ⟨rfl, rfl⟩
    cases b3
    case true =>
      go_wp2
      go_ret
      exact ⟨rfl, Grown.refl _⟩
    go_wp2_with fail
    refine (hasByte v2 b4 B4 g4 _).mono ?_
    rintro e w1 ⟨rfl, rfl⟩
    cases b4
    case true =>
      go_wp2
      go_ret
      exact ⟨rfl, Grown.refl _⟩
    go_wp2_with fail
    refine (hasByte p2 b5 B5 g5 _).mono ?_
    rintro e w1 ⟨rfl, rfl⟩
    cases b5
    case true =>
      go_wp2
      go_ret
      exact ⟨rfl, Grown.refl _⟩
    go_wp2_with fail
    refine (hasByte m2 b6 B6 g6 _).mono ?_
    rintro e w1 ⟨rfl, rfl⟩
    cases b6
    case true =>
      go_wp2
      go_ret
      exact ⟨rfl, Grown.refl _⟩
    go_wp2_with fail
    refine (buildString v1 p1 m1 g1 g2 g3 _).mono ?_
    rintro e w2 ⟨R1, rfl, E1, z1, rfl⟩
    go_wp2_with fail
    refine (buildString v2 p2 m2 g4 g5 g6 _).mono ?_
    rintro e w3 ⟨R2, rfl, E2, z2, rfl⟩
    have N1 : 32 ∉ v1.data.toList := by simpa using B1.out
    have N2 : 32 ∉ p1.data.toList := by simpa using B2.out
    have N3 : 32 ∉ m1.data.toList := by simpa using B3.out
    have N4 : 32 ∉ v2.data.toList := by simpa using B4.out
    have N5 : 32 ∉ p2.data.toList := by simpa using B5.out
    have N6 : 32 ∉ m2.data.toList := by simpa using B6.out
    have HE : Hid ((R1.toList == R2.toList) = ((v1.toList == v2.toList) && (p1.toList == p2.toList) && (m1.toList == m2.toList))) := eq_bytes v1 p1 m1 v2 p2 m2 R1 R2 E1.out E2.out N1 N2 N4 N5
    have C1 : Hid (cnt R1.data.toList = if m1.data.toList = dflt then 1 else 4) := by rw [Hid, E1.out]; exact cnt_txt _ _ _ N1 N2 N3
    have C2 : Hid (cnt R2.data.toList = if m2.data.toList = dflt then 1 else 4) := by rw [Hid, E2.out]; exact cnt_txt _ _ _ N4 N5 N6
    clear N1 N2 N3 N4 N5 N6 B1 B2 B3 B4 B5 B6 E1 E2
    cases hm1 : (m1.toList == [100, 101, 102, 97, 117, 108, 116]) with
    | true =>
      have D1 : Hid (cnt R1.data.toList = 1) := by rw [Hid, C1.out, if_pos ((mode_is m1 true hm1).2 rfl)]
      clear C1
      go_wp2_with fail
      refine (countByte R1 1 D1 z1 _).mono ?_
      rintro e w4 ⟨rfl, rfl⟩
      cases hm2 : (m2.toList == [100, 101, 102, 97, 117, 108, 116]) with
      | true =>
        have D2 : Hid (cnt R2.data.toList = 1) := by rw [Hid, C2.out, if_pos ((mode_is m2 true hm2).2 rfl)]
        clear C2
        go_wp2_with fail
        refine (countByte R2 1 D2 z2 _).mono ?_
        rintro e w5 ⟨rfl, rfl⟩
        cases hx : (v1.toList == v2.toList) with
        | false =>
          have hR : (R1.toList == R2.toList) = false := by rw [HE.out, hx]; rfl
          clear HE
          go_wp2
          go_ret
          exact ⟨rfl, (((((Grown.refl _).alloc _ _).alloc _ _).alloc _ _).alloc _ _)⟩
        | true =>
          cases hy : (p1.toList == p2.toList) with
          | false =>
            have hR : (R1.toList == R2.toList) = false := by rw [HE.out, hx, hy]; rfl
            clear HE
            go_wp2
            go_ret
            exact ⟨rfl, (((((Grown.refl _).alloc _ _).alloc _ _).alloc _ _).alloc _ _)⟩
          | true =>
            cases hz : (m1.toList == m2.toList) with
            | false =>
              have hR : (R1.toList == R2.toList) = false := by rw [HE.out, hx, hy, hz]; rfl
              clear HE
              go_wp2
              go_ret
              exact ⟨rfl, (((((Grown.refl _).alloc _ _).alloc _ _).alloc _ _).alloc _ _)⟩
            | true =>
              have hR : (R1.toList == R2.toList) = true := by rw [HE.out, hx, hy, hz]; rfl
              clear HE
              go_wp2
              go_ret
              exact ⟨rfl, (((((Grown.refl _).alloc _ _).alloc _ _).alloc _ _).alloc _ _)⟩
      | false =>
        have D2 : Hid (cnt R2.data.toList = 4) := by rw [Hid, C2.out, if_neg (fun e => Bool.noConfusion ((mode_is m2 false hm2).1 e))]
        clear C2
        go_wp2_with fail
        refine (countByte R2 4 D2 z2 _).mono ?_
        rintro e w5 ⟨rfl, rfl⟩
        cases hx : (v1.toList == v2.toList) with
        | false =>
          have hR : (R1.toList == R2.toList) = false := by rw [HE.out, hx]; rfl
          clear HE
          go_wp2
          go_ret
          exact ⟨rfl, (((((Grown.refl _).alloc _ _).alloc _ _).alloc _ _).alloc _ _)⟩
        | true =>
          cases hy : (p1.toList == p2.toList) with
          | false =>
            have hR : (R1.toList == R2.toList) = false := by rw [HE.out, hx, hy]; rfl
            clear HE
            go_wp2
            go_ret
            exact ⟨rfl, (((((Grown.refl _).alloc _ _).alloc _ _).alloc _ _).alloc _ _)⟩
          | true =>
            cases hz : (m1.toList == m2.toList) with
            | false =>
              have hR : (R1.toList == R2.toList) = false := by rw [HE.out, hx, hy, hz]; rfl
              clear HE
              go_wp2
              go_ret
              exact ⟨rfl, (((((Grown.refl _).alloc _ _).alloc _ _).alloc _ _).alloc _ _)⟩
            | true =>
              have hR : (R1.toList == R2.toList) = true := by rw [HE.out, hx, hy, hz]; rfl
              clear HE
              go_wp2
              go_ret
              exact ⟨rfl, (((((Grown.refl _).alloc _ _).alloc _ _).alloc _ _).alloc _ _)⟩
    | false =>
      have D1 : Hid (cnt R1.data.toList = 4) := by rw [Hid, C1.out, if_neg (fun e => Bool.noConfusion ((mode_is m1 false hm1).1 e))]
      clear C1
      go_wp2_with fail
      refine (countByte R1 4 D1 z1 _).mono ?_
      rintro e w4 ⟨rfl, rfl⟩
      cases hm2 : (m2.toList == [100, 101, 102, 97, 117, 108, 116]) with
      | true =>
        have D2 : Hid (cnt R2.data.toList = 1) := by rw [Hid, C2.out, if_pos ((mode_is m2 true hm2).2 rfl)]
        clear C2
        go_wp2_with fail
        refine (countByte R2 1 D2 z2 _).mono ?_
        rintro e w5 ⟨rfl, rfl⟩
        cases hx : (v1.toList == v2.toList) with
        | false =>
          have hR : (R1.toList == R2.toList) = false := by rw [HE.out, hx]; rfl
          clear HE
          go_wp2
          go_ret
          exact ⟨rfl, (((((Grown.refl _).alloc _ _).alloc _ _).alloc _ _).alloc _ _)⟩
        | true =>
          cases hy : (p1.toList == p2.toList) with
          | false =>
            have hR : (R1.toList == R2.toList) = false := by rw [HE.out, hx, hy]; rfl
            clear HE
            go_wp2
            go_ret
            exact ⟨rfl, (((((Grown.refl _).alloc _ _).alloc _ _).alloc _ _).alloc _ _)⟩
          | true =>
            cases hz : (m1.toList == m2.toList) with
            | false =>
              have hR : (R1.toList == R2.toList) = false := by rw [HE.out, hx, hy, hz]; rfl
              clear HE
              go_wp2
              go_ret
              exact ⟨rfl, (((((Grown.refl _).alloc _ _).alloc _ _).alloc _ _).alloc _ _)⟩
            | true =>
              have hR : (R1.toList == R2.toList) = true := by rw [HE.out, hx, hy, hz]; rfl
              clear HE
              go_wp2
              go_ret
              exact ⟨rfl, (((((Grown.refl _).alloc _ _).alloc _ _).alloc _ _).alloc _ _)⟩
      | false =>
        have D2 : Hid (cnt R2.data.toList = 4) := by rw [Hid, C2.out, if_neg (fun e => Bool.noConfusion ((mode_is m2 false hm2).1 e))]
        clear C2
        go_wp2_with fail
        refine (countByte R2 4 D2 z2 _).mono ?_
        rintro e w5 ⟨rfl, rfl⟩
        cases hx : (v1.toList == v2.toList) with
        | false =>
          have hR : (R1.toList == R2.toList) = false := by rw [HE.out, hx]; rfl
          clear HE
          go_wp2
          go_ret
          exact ⟨rfl, (((((Grown.refl _).alloc _ _).alloc _ _).alloc _ _).alloc _ _)⟩
        | true =>
          cases hy : (p1.toList == p2.toList) with
          | false =>
            have hR : (R1.toList == R2.toList) = false := by rw [HE.out, hx, hy]; rfl
            clear HE
            go_wp2
            go_ret
            exact ⟨rfl, (((((Grown.refl _).alloc _ _).alloc _ _).alloc _ _).alloc _ _)⟩
          | true =>
            cases hz : (m1.toList == m2.toList) with
            | false =>
              have hR : (R1.toList == R2.toList) = false := by rw [HE.out, hx, hy, hz]; rfl
              clear HE
              go_wp2
              go_ret
              exact ⟨rfl, (((((Grown.refl _).alloc _ _).alloc _ _).alloc _ _).alloc _ _)⟩
            | true =>
              have hR : (R1.toList == R2.toList) = true := by rw [HE.out, hx, hy, hz]; rfl
              clear HE
              go_wp2
              go_ret
              exact ⟨rfl, (((((Grown.refl _).alloc _ _).alloc _ _).alloc _ _).alloc _ _)⟩
  · go_enter Try.func3, Try.ntmps3
    go_wp2_with fail
    refine (bytes6_no v1 p1 m1 v2 p2 m2 _ k1 k2 k3 k4 k5 k6 (by omega)).mono ?_
    rintro e w1 ⟨rfl, rfl⟩
    go_wp2
    go_ret
    exact ⟨rfl, Grown.refl _⟩

end Go.Proofs.Qxb6002630a.Build
