import Derived.Test.Qxb6001352aSelBytes
import Derived.Test.Qxb6001352aSelects
import Derived.WalkKit
namespace Go.Proofs.Qxb6001352a.Sel
open Go.RowKit Go.Proofs.Qxb6001352a.Strs

set_option maxHeartbeats 1000000 in
set_option maxRecDepth 100000 in
theorem strLen (s : ByteArray) (w : World) (hs : s.size ≤ maxLen) :
    Calls Try.prog 26 #[.string s] w fun e w' => (∃ t : Int, e = .returned (.int .i64 t) ∧ 0 ≤ t ∧ t ≤ 2097152) ∧ w' = w := by
  unfold maxLen at hs
  by_cases hbig : (1048576 : Int) < (s.size : Int)
  · go_enter Try.func26, Try.ntmps26
    go_wp2
    go_ret
    exact ⟨⟨_, rfl, by omega, by omega⟩, rfl⟩
  · go_enter Try.func26, Try.ntmps26
    go_wp2
    go_ret
    exact ⟨⟨_, rfl, by omega, by omega⟩, rfl⟩

set_option maxHeartbeats 1000000 in
set_option maxRecDepth 100000 in
theorem minLen (a0 a1 : Option Addr) (n0 c0 n1 c1 m : Nat) (w : World) (hm : (n1 < n0 → m = n1) ∧ (¬ n1 < n0 → m = n0)) (h0 : n0 ≤ maxLen) (h1 : n1 ≤ maxLen) :
    Calls Try.prog 27 #[.slice a0 n0 c0, .slice a1 n1 c1] w fun e w' => e = .returned (.int .i64 (m : Int)) ∧ w' = w := by
  unfold maxLen at h0 h1
  by_cases hlt : (n0 : Int) < (n1 : Int)
  · obtain rfl := hm.2 (by omega)
    clear hm
    go_enter Try.func27, Try.ntmps27
    go_wp2
    go_ret
    exact ⟨rfl, rfl⟩
  · have e : m = n1 := by by_cases h : n1 < n0 <;> simp [h] at hm <;> omega
    subst e
    clear hm
    go_enter Try.func27, Try.ntmps27
    go_wp2
    go_ret
    exact ⟨rfl, rfl⟩

set_option maxHeartbeats 1000000 in
set_option maxRecDepth 100000 in
theorem filterBytes (a0 a1 a2 a3 : Option Addr) (n0 c0 n1 c1 n2 c2 n3 c3 : Nat) (s0 s1 s2 s3 : List ByteArray) (w : World)
    (S0 : StrsAt w a0 n0 c0 s0) (S1 : StrsAt w a1 n1 c1 s1) (S2 : StrsAt w a2 n2 c2 s2) (S3 : StrsAt w a3 n3 c3 s3)
    (h0 : n0 ≤ maxLen) (h1 : n1 ≤ maxLen) (h2 : n2 ≤ maxLen) (h3 : n3 ≤ maxLen) :
    Calls Try.prog 25 #[.slice a0 n0 c0, .slice a1 n1 c1, .slice a2 n2 c2, .slice a3 n3 c3] w fun e w' => (∃ t : Int, e = .returned (.int .i64 t) ∧ 0 ≤ t ∧ t ≤ 8388608) ∧ w' = w := by
  go_enter Try.func25, Try.ntmps25
  go_wp2_with fail
  refine (strsBytes a0 n0 c0 s0 _ S0 h0).mono ?_
  rintro e w1 ⟨⟨t0, rfl, p0, q0⟩, rfl⟩
  go_wp2_with fail
  refine (strsBytes a1 n1 c1 s1 _ S1 h1).mono ?_
  rintro e w1 ⟨⟨t1, rfl, p1, q1⟩, rfl⟩
  go_wp2_with fail
  refine (strsBytes a2 n2 c2 s2 _ S2 h2).mono ?_
  rintro e w1 ⟨⟨t2, rfl, p2, q2⟩, rfl⟩
  go_wp2_with fail
  refine (strsBytes a3 n3 c3 s3 _ S3 h3).mono ?_
  rintro e w1 ⟨⟨t3, rfl, p3, q3⟩, rfl⟩
  go_wp2
  go_ret
  exact ⟨⟨_, rfl, by omega, by omega⟩, rfl⟩

theorem min_ok (n0 n1 : Nat) : ∃ m, ((n1 < n0 → m = n1) ∧ (¬ n1 < n0 → m = n0)) ∧ m ≤ n0 ∧ m ≤ n1 := by
  by_cases h : n1 < n0
  · exact ⟨n1, ⟨fun _ => rfl, fun h' => absurd h h'⟩, by omega, by omega⟩
  · exact ⟨n0, ⟨fun h' => absurd h' h, fun _ => rfl⟩, by omega, by omega⟩

set_option maxHeartbeats 8000000 in
set_option maxRecDepth 100000 in
theorem walk (a0 a1 a2 a3 : Option Addr) (n0 c0 n1 c1 n2 c2 n3 c3 : Nat) (s0 s1 s2 s3 : List ByteArray) (b n : ByteArray) (w : World)
    (S0 : StrsAt w a0 n0 c0 s0) (S1 : StrsAt w a1 n1 c1 s1) (S2 : StrsAt w a2 n2 c2 s2) (S3 : StrsAt w a3 n3 c3 s3)
    (h0 : n0 ≤ maxLen) (h1 : n1 ≤ maxLen) (h2 : n2 ≤ maxLen) (h3 : n3 ≤ maxLen) (hb : b.size ≤ maxLen) (hn : n.size ≤ maxLen) :
    Calls Try.prog 10 #[.slice a0 n0 c0, .slice a1 n1 c1, .slice a2 n2 c2, .slice a3 n3 c3, .string b, .string n] w fun e w' => e = .returned (.bool true) ∧ Below w.heap.size w w' := by
  obtain ⟨m, hm, hm0, hm1⟩ := min_ok n0 n1
  obtain ⟨m', hm', hm2, hm3⟩ := min_ok n2 n3
  have HM : Hid ((n1 < n0 → m = n1) ∧ (¬ n1 < n0 → m = n0)) := hm
  have HM' : Hid ((n3 < n2 → m' = n3) ∧ (¬ n3 < n2 → m' = n2)) := hm'
  clear hm hm'
  go_enter Try.func10, Try.ntmps10
  go_wp2_with fail
  refine (bytes32 a0 a1 a2 a3 n0 c0 n1 c1 n2 c2 n3 c3 s0 s1 s2 s3 b n _ S0 S1 S2 S3 h0 h1 h2 h3 hb hn).mono ?_
  rintro e w1 ⟨rfl | ⟨rfl, z0, z1, z2, z3⟩, rfl⟩
  · go_wp2
    go_ret
    exact ⟨rfl, Below.refl _ _⟩
  go_wp2_with fail
  refine (filterBytes a0 a1 a2 a3 n0 c0 n1 c1 n2 c2 n3 c3 s0 s1 s2 s3 _ S0 S1 S2 S3 h0 h1 h2 h3).mono ?_
  rintro e w1 ⟨⟨t, rfl, p, q⟩, rfl⟩
  go_wp2_with fail
  refine (strLen b _ hb).mono ?_
  rintro e w1 ⟨⟨t1, rfl, p1, q1⟩, rfl⟩
  go_wp2_with fail
  refine (strLen n _ hn).mono ?_
  rintro e w1 ⟨⟨t2, rfl, p2, q2⟩, rfl⟩
  by_cases hbig : (1048576 : Int) < t + t1 + t2
  · go_wp2
    go_ret
    exact ⟨rfl, Below.refl _ _⟩
  have hd : decide ((1048576 : Int) < t + t1 + t2) = false := by simpa using hbig
  go_wp2_with fail
  refine (minLen a0 a1 n0 c0 n1 c1 m _ HM.out h0 h1).mono ?_
  rintro e w1 ⟨rfl, rfl⟩
  go_wp2_with fail
  go_loop [14] (fun i => ∃ k : Nat, k ≤ m ∧ i = .int .i64 k ∧ Hid (∀ j (h : j < s0.length), j < k → ¬ (s0[j]).toList = b.toList)) (fun i => m - (intOf i).toNat)
  case atStart => exact ⟨0, Nat.zero_le _, rfl, fun j h h' => absurd h' (by omega)⟩
  case round =>
    obtain ⟨k, hk, rfl, HN⟩ := hrel
    have l0 := S0.len
    by_cases hlt : k < m
    · obtain ⟨b0, o0, rfl, hc0⟩ := S0.cells (by omega)
      have hkl : k < s0.length := by omega
      have hc := hc0 k hkl
      have HS : Hid (∀ j (h : j < s0.length), j < k + 1 → ¬ (s0[k]).toList = b.toList → ¬ (s0[j]).toList = b.toList) := by
        intro j h hj hne
        by_cases e : j = k
        · subst e; exact hne
        · exact HN.out j h (by omega)
      generalize s0[k] = x at *
      clear hc0 l0
      by_cases he : x.toList = b.toList
      · have he' : (x.toList == b.toList) = true := by simpa using he
        go_wp2
        go_ret
        exact ⟨rfl, Below.refl _ _⟩
      · have he' : (x.toList == b.toList) = false := by simpa using he
        go_wp2
        go_round
        case rel => exact ⟨k + 1, by omega, by go_num, fun j h hj => HS.out j h hj he⟩
        case measure => simp [intOf]; omega
    · obtain rfl : k = m := by omega
      go_wp2_with fail
      refine (minLen a2 a3 n2 c2 n3 c3 m' _ HM'.out h2 h3).mono ?_
      rintro e w1 ⟨rfl, rfl⟩
      go_wp2_with fail
      go_loop [16] (fun i => ∃ k : Nat, k ≤ m' ∧ i = .int .i64 k ∧ Hid (∀ j (h : j < s2.length), j < k → ¬ (s2[j]).toList = b.toList)) (fun i => m' - (intOf i).toNat)
      case atStart => exact ⟨0, Nat.zero_le _, rfl, fun j h h' => absurd h' (by omega)⟩
      case round =>
        obtain ⟨k', hk', rfl, HN'⟩ := hrel
        have l2 := S2.len
        by_cases hlt' : k' < m'
        · obtain ⟨b2, o2, rfl, hc2⟩ := S2.cells (by omega)
          have hkl : k' < s2.length := by omega
          have hc := hc2 k' hkl
          have HS : Hid (∀ j (h : j < s2.length), j < k' + 1 → ¬ (s2[k']).toList = b.toList → ¬ (s2[j]).toList = b.toList) := by
            intro j h hj hne
            by_cases e : j = k'
            · subst e; exact hne
            · exact HN'.out j h (by omega)
          generalize s2[k'] = x at *
          clear hc2 l2
          by_cases he : x.toList = b.toList
          · have he' : (x.toList == b.toList) = true := by simpa using he
            go_wp2
            go_ret
            exact ⟨rfl, Below.refl _ _⟩
          · have he' : (x.toList == b.toList) = false := by simpa using he
            go_wp2
            go_round
            case rel => exact ⟨k' + 1, by omega, by go_num, fun j h hj => HS.out j h hj he⟩
            case measure => simp [intOf]; omega
        · obtain rfl : k' = m' := by omega
          go_wp2_with fail
          refine (clone a0 n0 c0 s0 _ S0 z0).mono ?_
          rintro e w1 ⟨x0, y0, rfl, T0, B1⟩
          have D1 := B1
          go_wp2_with fail
          refine (clone a1 n1 c1 s1 _ (S1.below D1) z1).mono ?_
          rintro e w2 ⟨x1, y1, rfl, T1, B2⟩
          have D2 := D1.trans (B2.mono D1.size)
          go_wp2_with fail
          refine (clone a2 n2 c2 s2 _ (S2.below D2) z2).mono ?_
          rintro e w3 ⟨x2, y2, rfl, T2, B3⟩
          have D3 := D2.trans (B3.mono D2.size)
          go_wp2_with fail
          refine (clone a3 n3 c3 s3 _ (S3.below D3) z3).mono ?_
          rintro e w4 ⟨x3, y3, rfl, T3, B4⟩
          have D4 := D3.trans (B4.mono D3.size)
          go_wp2_with fail
          refine (filter x0 x1 x2 x3 n0 y0 n1 y1 n2 y2 n3 y3 k k' s0 s1 s2 s3 b _ (((T0.below B2).below B3).below B4) ((T1.below B3).below B4) (T2.below B4) T3 z0 z1 z2 z3 HM.out HM'.out HN.out HN'.out).mono ?_
          rintro e w5 ⟨f1, g1, f2, g2, rfl, ⟨L1, U1⟩, ⟨L2, U2⟩, B5⟩
          have D5 := D4.trans (B5.mono D4.size)
          clear B1 B2 B3 B4 B5 D1 D2 D3 D4 T0 T1 T2 T3
          have A5 : Below w5.heap.size w5 (w5.alloc (.cells #[.slice f1 k g1, .slice f2 k' g2] 43)) := (Below.refl _ _).alloc (Nat.le_refl _) _
          go_wp2_with fail
          refine (selects f1 f2 k g1 k' g2 b n _ L1 L2 (U1.below A5) (U2.below A5) (by omega) (by omega)).mono ?_
          rintro e w6 ⟨rfl, B6⟩
          have D6 := (D5.trans (A5.mono D5.size)).trans (B6.mono (by have := D5.size; simp; omega))
          go_wp2
          go_ret
          exact ⟨by simp, D6⟩

end Go.Proofs.Qxb6001352a.Sel
