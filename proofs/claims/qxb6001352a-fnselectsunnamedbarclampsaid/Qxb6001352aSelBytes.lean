import Derived.Test.Qxb6001352aStrs
import Derived.WalkKit
namespace Go.Proofs.Qxb6001352a.Sel
open Go.RowKit Go.Proofs.Qxb6001352a.Strs

set_option maxHeartbeats 4000000 in
set_option maxRecDepth 100000 in
theorem bytes32 (a0 a1 a2 a3 : Option Addr) (n0 c0 n1 c1 n2 c2 n3 c3 : Nat) (s0 s1 s2 s3 : List ByteArray) (b n : ByteArray) (w : World)
    (S0 : StrsAt w a0 n0 c0 s0) (S1 : StrsAt w a1 n1 c1 s1) (S2 : StrsAt w a2 n2 c2 s2) (S3 : StrsAt w a3 n3 c3 s3)
    (h0 : n0 ≤ maxLen) (h1 : n1 ≤ maxLen) (h2 : n2 ≤ maxLen) (h3 : n3 ≤ maxLen) (hb : b.size ≤ maxLen) (hn : n.size ≤ maxLen) :
    Calls Try.prog 32 #[.slice a0 n0 c0, .slice a1 n1 c1, .slice a2 n2 c2, .slice a3 n3 c3, .string b, .string n] w fun e w' =>
      (e = .returned (.bool false) ∨ (e = .returned (.bool true) ∧ n0 ≤ 1048576 ∧ n1 ≤ 1048576 ∧ n2 ≤ 1048576 ∧ n3 ≤ 1048576)) ∧ w' = w := by
  unfold maxLen at h0 h1 h2 h3 hb hn
  by_cases hbig0 : (1048576 : Int) < (n0 : Int)
  · go_enter Try.func32, Try.ntmps32
    go_wp2
    go_ret
    exact ⟨.inl rfl, rfl⟩
  · have hd0 : decide ((1048576 : Int) < (n0 : Int)) = false := by simpa using hbig0
    go_enter Try.func32, Try.ntmps32
    go_wp2
    go_loop [13, 14] (fun t i => ∃ (k : Nat) (x : Int), k ≤ n0 ∧ i = .int .i64 k ∧ t = .int .i64 x ∧ 0 ≤ x ∧ x ≤ 1048576) (fun _ i => n0 - (intOf i).toNat)
    case atStart => exact ⟨0, _, Nat.zero_le _, rfl, rfl, by omega, by omega⟩
    case round =>
      obtain ⟨k, x, hk, rfl, rfl, hx0, hx1⟩ := hrel
      by_cases hlt : k < n0
      · obtain ⟨bb, off, rfl, hcell⟩ := S0.cells (by omega)
        have hkl : k < s0.length := by rw [S0.len]; exact hlt
        have hc := hcell k hkl
        obtain ⟨s, hs⟩ : ∃ s, s = s0[k] := ⟨_, rfl⟩
        rw [← hs] at hc
        clear hcell hs
        by_cases g1 : (1048576 : Int) < (s.size : Int)
        · go_wp2
          go_ret
          exact ⟨.inl rfl, rfl⟩
        · by_cases g2 : (1048576 : Int) < x + (s.size : Int)
          · go_wp2
            go_ret
            exact ⟨.inl rfl, rfl⟩
          · go_wp2
            go_round
            case rel => exact ⟨k + 1, _, by omega, by go_num, rfl, by omega, by omega⟩
            case measure => simp [intOf]; omega
      · by_cases g1 : (1048576 : Int) < (n1 : Int)
        · go_wp2
          go_ret
          exact ⟨.inl rfl, rfl⟩
        · by_cases g2 : (1048576 : Int) < x + (n1 : Int)
          · go_wp2
            go_ret
            exact ⟨.inl rfl, rfl⟩
          · have d1 : decide ((1048576 : Int) < (n1 : Int)) = false := by simpa using g1
            have d2 : decide ((1048576 : Int) < x + (n1 : Int)) = false := by simpa using g2
            go_wp2
            go_loop [13, 15] (fun t i => ∃ (k : Nat) (x : Int), k ≤ n1 ∧ i = .int .i64 k ∧ t = .int .i64 x ∧ 0 ≤ x ∧ x ≤ 1048576) (fun _ i => n1 - (intOf i).toNat)
            case atStart => exact ⟨0, _, Nat.zero_le _, rfl, rfl, by omega, by omega⟩
            case round =>
              obtain ⟨k, x, hk, rfl, rfl, hx0, hx1⟩ := hrel
              by_cases hlt : k < n1
              · obtain ⟨bb, off, rfl, hcell⟩ := S1.cells (by omega)
                have hkl : k < s1.length := by rw [S1.len]; exact hlt
                have hc := hcell k hkl
                obtain ⟨s, hs⟩ : ∃ s, s = s1[k] := ⟨_, rfl⟩
                rw [← hs] at hc
                clear hcell hs
                by_cases g1 : (1048576 : Int) < (s.size : Int)
                · go_wp2
                  go_ret
                  exact ⟨.inl rfl, rfl⟩
                · by_cases g2 : (1048576 : Int) < x + (s.size : Int)
                  · go_wp2
                    go_ret
                    exact ⟨.inl rfl, rfl⟩
                  · go_wp2
                    go_round
                    case rel => exact ⟨k + 1, _, by omega, by go_num, rfl, by omega, by omega⟩
                    case measure => simp [intOf]; omega
              · by_cases g1 : (1048576 : Int) < (n2 : Int)
                · go_wp2
                  go_ret
                  exact ⟨.inl rfl, rfl⟩
                · by_cases g2 : (1048576 : Int) < x + (n2 : Int)
                  · go_wp2
                    go_ret
                    exact ⟨.inl rfl, rfl⟩
                  · have d1 : decide ((1048576 : Int) < (n2 : Int)) = false := by simpa using g1
                    have d2 : decide ((1048576 : Int) < x + (n2 : Int)) = false := by simpa using g2
                    go_wp2
                    go_loop [13, 16] (fun t i => ∃ (k : Nat) (x : Int), k ≤ n2 ∧ i = .int .i64 k ∧ t = .int .i64 x ∧ 0 ≤ x ∧ x ≤ 1048576) (fun _ i => n2 - (intOf i).toNat)
                    case atStart => exact ⟨0, _, Nat.zero_le _, rfl, rfl, by omega, by omega⟩
                    case round =>
                      obtain ⟨k, x, hk, rfl, rfl, hx0, hx1⟩ := hrel
                      by_cases hlt : k < n2
                      · obtain ⟨bb, off, rfl, hcell⟩ := S2.cells (by omega)
                        have hkl : k < s2.length := by rw [S2.len]; exact hlt
                        have hc := hcell k hkl
                        obtain ⟨s, hs⟩ : ∃ s, s = s2[k] := ⟨_, rfl⟩
                        rw [← hs] at hc
                        clear hcell hs
                        by_cases g1 : (1048576 : Int) < (s.size : Int)
                        · go_wp2
                          go_ret
                          exact ⟨.inl rfl, rfl⟩
                        · by_cases g2 : (1048576 : Int) < x + (s.size : Int)
                          · go_wp2
                            go_ret
                            exact ⟨.inl rfl, rfl⟩
                          · go_wp2
                            go_round
                            case rel => exact ⟨k + 1, _, by omega, by go_num, rfl, by omega, by omega⟩
                            case measure => simp [intOf]; omega
                      · by_cases g1 : (1048576 : Int) < (n3 : Int)
                        · go_wp2
                          go_ret
                          exact ⟨.inl rfl, rfl⟩
                        · by_cases g2 : (1048576 : Int) < x + (n3 : Int)
                          · go_wp2
                            go_ret
                            exact ⟨.inl rfl, rfl⟩
                          · have d1 : decide ((1048576 : Int) < (n3 : Int)) = false := by simpa using g1
                            have d2 : decide ((1048576 : Int) < x + (n3 : Int)) = false := by simpa using g2
                            go_wp2
                            go_loop [13, 17] (fun t i => ∃ (k : Nat) (x : Int), k ≤ n3 ∧ i = .int .i64 k ∧ t = .int .i64 x ∧ 0 ≤ x ∧ x ≤ 1048576) (fun _ i => n3 - (intOf i).toNat)
                            case atStart => exact ⟨0, _, Nat.zero_le _, rfl, rfl, by omega, by omega⟩
                            case round =>
                              obtain ⟨k, x, hk, rfl, rfl, hx0, hx1⟩ := hrel
                              by_cases hlt : k < n3
                              · obtain ⟨bb, off, rfl, hcell⟩ := S3.cells (by omega)
                                have hkl : k < s3.length := by rw [S3.len]; exact hlt
                                have hc := hcell k hkl
                                obtain ⟨s, hs⟩ : ∃ s, s = s3[k] := ⟨_, rfl⟩
                                rw [← hs] at hc
                                clear hcell hs
                                by_cases g1 : (1048576 : Int) < (s.size : Int)
                                · go_wp2
                                  go_ret
                                  exact ⟨.inl rfl, rfl⟩
                                · by_cases g2 : (1048576 : Int) < x + (s.size : Int)
                                  · go_wp2
                                    go_ret
                                    exact ⟨.inl rfl, rfl⟩
                                  · go_wp2
                                    go_round
                                    case rel => exact ⟨k + 1, _, by omega, by go_num, rfl, by omega, by omega⟩
                                    case measure => simp [intOf]; omega
                              · go_wp2
                                all_goals
                                  go_ret
                                  first
                                  | exact ⟨.inl rfl, rfl⟩
                                  | exact ⟨.inr ⟨rfl, by omega, by omega, by omega, by omega⟩, rfl⟩

end Go.Proofs.Qxb6001352a.Sel
