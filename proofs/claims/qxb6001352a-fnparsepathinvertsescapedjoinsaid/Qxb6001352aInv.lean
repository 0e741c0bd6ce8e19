import Derived.Test.Qxb6001352aEsc
import Derived.Test.Qxb6001352aParse
import Derived.WalkKit
import Derived.BigQuiet
import Derived.Deep.QuietTactic
import Derived.WalkSmall
namespace Go.Proofs.Qxb6001352a.Inv
open Go.RowKit Go.Proofs.Qxb6001352a.Strs Go.Proofs.Qxb6001352a.Plain Go.Proofs.Qxb6001352a.Esc

set_option maxHeartbeats 2000000 in
set_option maxRecDepth 100000 in
theorem bytes11 (a : Option Addr) (n c : Nat) (ss : List ByteArray) (w : World) (S : StrsAt w a n c ss) (hn : n ≤ maxLen) :
    Calls Try.prog 11 #[.slice a n c] w fun e w' => (e = .returned (.bool false) ∨ (e = .returned (.bool true) ∧ n ≤ 1048576 ∧ total (bytesOf ss) ≤ 1048576)) ∧ w' = w := by
  unfold maxLen at hn
  by_cases hbig : (1048576 : Int) < (n : Int)
  · go_enter Try.func11, Try.ntmps11
    go_wp2
    go_ret
    exact ⟨.inl rfl, rfl⟩
  · have hd : decide ((1048576 : Int) < (n : Int)) = false := by simpa using hbig
    go_enter Try.func11, Try.ntmps11
    go_wp2
    go_loop [3, 4] (fun t i => ∃ k : Nat, k ≤ n ∧ i = .int .i64 k ∧ t = .int .i64 ((n : Int) + (total ((bytesOf ss).take k) : Int)) ∧ n + total ((bytesOf ss).take k) ≤ 1048576) (fun _ i => n - (intOf i).toNat)
    case atStart => exact ⟨0, Nat.zero_le _, rfl, by simp [total], by simp [total]; omega⟩
    case round =>
      obtain ⟨k, hk, rfl, rfl, hx⟩ := hrel
      have hsl := S.len
      by_cases hlt : k < n
      · obtain ⟨b, off, rfl, hcell⟩ := S.cells (by omega)
        have hkl : k < ss.length := by omega
        have hc := hcell k hkl
        have kb : k < (bytesOf ss).length := by simp [bytesOf]; omega
        have q1 := tot_step (bytesOf ss) k kb
        have ek : (bytesOf ss)[k].length = ss[k].size := by simp [bytesOf]
        rw [ek] at q1
        clear ek hcell
        generalize ss[k] = s at *
        have HQ : Hid (total ((bytesOf ss).take (k + 1)) = total ((bytesOf ss).take k) + s.size) := q1
        clear q1
        by_cases h1 : (1048576 : Int) < (s.size : Int)
        · go_wp2
          go_ret
          exact ⟨.inl rfl, rfl⟩
        · by_cases h2 : (1048576 : Int) < (n : Int) + (total ((bytesOf ss).take k) : Int) + (s.size : Int)
          · go_wp2
            go_ret
            exact ⟨.inl rfl, rfl⟩
          · go_wp2
            go_round
            case rel => exact ⟨k + 1, by omega, by go_num, by rw [HQ.out]; go_num, by rw [HQ.out]; omega⟩
            case measure => simp [intOf]; omega
      · obtain rfl : k = n := by omega
        rw [List.take_of_length_le (by simp [bytesOf]; omega)] at hx
        go_wp2
        go_ret
        exact ⟨.inr ⟨rfl, by omega, by omega⟩, rfl⟩

set_option maxHeartbeats 2000000 in
set_option maxRecDepth 100000 in
theorem equalStrs (a a' : Option Addr) (n c c' : Nat) (ss ss' : List ByteArray) (w : World) (S : StrsAt w a n c ss) (S' : StrsAt w a' n c' ss') (hn : n ≤ maxLen) (he : ss.map (fun s => s.toList) = ss'.map (fun s => s.toList)) :
    Calls Try.prog 14 #[.slice a n c, .slice a' n c'] w fun e w' => e = .returned (.bool true) ∧ Below w.heap.size w w' := by
  unfold maxLen at hn
  have HE : Hid (ss.map (fun s => s.toList) = ss'.map (fun s => s.toList)) := he
  clear he
  go_enter Try.func14, Try.ntmps14
  go_wp2
  go_loopw [5] (fun i wr => ∃ k : Nat, k ≤ n ∧ i = .int .i64 k ∧ Below w.heap.size w wr) (fun i _ => n - (intOf i).toNat)
  case atStart => exact ⟨0, Nat.zero_le _, rfl, Below.refl _ _⟩
  case round =>
    obtain ⟨k, hk, rfl, hb⟩ := hrel
    by_cases hlt : k < n
    · obtain ⟨b0, o0, rfl, hc0⟩ := S.cells (by omega)
      obtain ⟨b1, o1, rfl, hc1⟩ := S'.cells (by omega)
      have l0 : k < ss.length := by rw [S.len]; omega
      have l1 : k < ss'.length := by rw [S'.len]; omega
      have e0 := hc0 k l0
      have e1 := hc1 k l1
      have hx : ss[k].toList = ss'[k].toList := by
        have := congrArg (fun l => l[k]?) HE.out
        simpa [List.getElem?_eq_getElem l0, List.getElem?_eq_getElem l1] using this
      have d0 : wr.cell? ⟨b0, o0 + k, none⟩ = some (.string ss[k]) := (hb.cell (p := ⟨b0, o0 + k, none⟩) (cell_lt e0)).trans e0
      have d1 : wr.cell? ⟨b1, o1 + k, none⟩ = some (.string ss'[k]) := (hb.cell (p := ⟨b1, o1 + k, none⟩) (cell_lt e1)).trans e1
      generalize ss[k] = x at *
      generalize ss'[k] = y at *
      have hxy : (x.toList == y.toList) = true := by simpa using hx
      have hxy' : (x.toList != y.toList) = false := by simpa using hx
      clear hc0 hc1 e0 e1 hx
      go_wp2
      go_quiet (fail)
      go_wp2
      go_roundw
      case rel => exact ⟨k + 1, by omega, by go_num, below_drewN hb _⟩
      case measure => simp [intOf]; omega
    · go_wp2
      go_ret
      exact ⟨rfl, hb⟩

theorem parse_strs (s : ByteArray) (K : List (List UInt8)) (n : Nat) (hn : K.length = n) (hK : Hid (ppAt s 0 [] = K)) (w : World) (hs : s.size ≤ 4194304) :
    Calls Try.prog 15 #[.string s] w fun e w' => ∃ a c, e = .returned (.slice a n c) ∧ StrsAt w' a n c (K.map fun l => ⟨l.toArray⟩) ∧ Below w.heap.size w w' := by
  subst hn
  refine (Parse.parse_walk s w hs).mono ?_
  rw [hK.out]
  rintro e w' ⟨v, rfl, hown, hb⟩
  have hne : K.length ≠ 0 := fun e => pp_ne (s.data.toList.drop 0) [] (hK.out.trans (List.length_eq_zero_iff.1 e))
  obtain ⟨g, cap, rfl⟩ : ∃ g cap, v = .slice (some ⟨g, 0, none⟩) K.length cap := by
    rcases hown.2 with ⟨_, h⟩ | ⟨g, cap, cur, hv, _⟩
    · exact absurd h hne
    · exact ⟨g, cap, hv⟩
  refine ⟨some ⟨g, 0, none⟩, cap, rfl, owned_at hown (by simp) ?_, hb⟩
  rw [List.map_map]
  rfl

theorem back_same (ss : List ByteArray) : ((bytesOf ss).map fun l => (⟨l.toArray⟩ : ByteArray)).map (fun s => s.toList) = ss.map (fun s => s.toList) := by
  simp [bytesOf]

theorem parse_back (ss : List ByteArray) (h0 : ss ≠ []) (h : ∀ j (hj : j < ss.length), j + 1 < ss.length → ¬ (ss[j]).data.toList.getLast? = some 92) : ppAt ⟨(ej (bytesOf ss)).toArray⟩ 0 [] = bytesOf ss := by
  unfold ppAt
  simp only [List.drop_zero]
  refine pp_ej (bytesOf ss) (by simpa [bytesOf] using h0) fun i hi => ?_
  have hi' : i + 1 < ss.length := by simpa [bytesOf] using hi
  have := h i (by omega) hi'
  simpa [bytesOf] using this

theorem last_of (s : ByteArray) (h : 0 < s.size) : s.data.toList.getLast? = some (s[s.size - 1]'(by omega)) := by
  rw [List.getLast?_eq_getElem?]
  simp
  rw [Array.getElem?_eq_getElem (by simp; omega)]
  rfl

set_option maxHeartbeats 4000000 in
set_option maxRecDepth 100000 in
theorem walk (a : Option Addr) (n c : Nat) (ss : List ByteArray) (w : World) (S : StrsAt w a n c ss) (hn : n ≤ maxLen) :
    Calls Try.prog 3 #[.slice a n c] w fun e w' => e = .returned (.bool true) ∧ Below w.heap.size w w' := by
  go_enter Try.func3, Try.ntmps3
  go_wp2_with fail
  refine (bytes11 a n c ss _ S hn).mono ?_
  rintro e w1 ⟨rfl | ⟨rfl, z0, z1⟩, rfl⟩
  · go_wp2
    go_ret
    exact ⟨rfl, Below.refl _ _⟩
  have HT : Hid (total (bytesOf ss) ≤ 1048576) := z1
  clear z1
  go_wp2_with fail
  refine (strsBytes a n c ss _ S hn).mono ?_
  rintro e w1 ⟨⟨t, rfl, p, q⟩, rfl⟩
  by_cases hbig : (1048576 : Int) < t
  · go_wp2
    go_ret
    exact ⟨rfl, Below.refl _ _⟩
  have hd : decide ((1048576 : Int) < t) = false := by simpa using hbig
  by_cases hn0 : n = 0
  · have hn0' : ((n : Int) == 0) = true := by simp; omega
    go_wp2
    go_ret
    exact ⟨rfl, Below.refl _ _⟩
  have hn0' : ((n : Int) == 0) = false := by simp; omega
  go_wp2
  go_loop [3] (fun i => ∃ k : Nat, k + 1 ≤ n ∧ i = .int .i64 k ∧ Hid (∀ j (h : j < ss.length), j < k → ¬ (ss[j]).data.toList.getLast? = some 92)) (fun i => n - (intOf i).toNat)
  case atStart => exact ⟨0, by omega, rfl, fun j h h' => absurd h' (by omega)⟩
  case round =>
    obtain ⟨k, hk, rfl, HN⟩ := hrel
    have hsl := S.len
    by_cases hlt : k + 1 < n
    · obtain ⟨b0, o0, rfl, hc0⟩ := S.cells (by omega)
      have hkl : k < ss.length := by omega
      have hc := hc0 k hkl
      have HS : Hid (∀ j (h : j < ss.length), j < k + 1 → ¬ (ss[k]).data.toList.getLast? = some 92 → ¬ (ss[j]).data.toList.getLast? = some 92) := by
        intro j h hj hne
        by_cases e : j = k
        · subst e; exact hne
        · exact HN.out j h (by omega)
      have hsb : ss[k].size ≤ 1048576 := by
        have kb : k < (bytesOf ss).length := by simp [bytesOf]; omega
        have q1 := tot_step (bytesOf ss) k kb
        have q2 := tot_le (bytesOf ss) (k + 1)
        have ek : (bytesOf ss)[k].length = ss[k].size := by simp [bytesOf]
        have := HT.out
        omega
      generalize ss[k] = s at *
      have hlt' : (k : Int) + 1 < (n : Int) := by omega
      by_cases hs0 : s.size = 0
      · have hs0' : ¬ (0 : Int) < (s.size : Int) := by omega
        have hs1 : decide ((0 : Int) < (s.size : Int)) = false := decide_eq_false (by omega)
        have HE : Hid (s.data.toList.getLast? = none) := by
          have : s.data.toList = [] := List.length_eq_zero_iff.1 (by simpa using hs0)
          rw [Hid, this]; rfl
        clear hs0 hc0
        go_wp2
        go_round
        case rel => exact ⟨k + 1, by omega, by go_num, fun j h hj => HS.out j h hj (by rw [HE.out]; simp)⟩
        case measure => simp [intOf]; omega
      · obtain ⟨m, hm⟩ : ∃ m, s.size = m + 1 := ⟨s.size - 1, by omega⟩
        have hms : m < s.size := by omega
        have hmb : m ≤ 1048576 := by omega
        have hlast := last_of s (by omega)
        have hx : s[s.size - 1]'(by omega) = s[m] := by congr 1; omega
        rw [hx] at hlast
        have HL : Hid (s.data.toList.getLast? = some s[m]) := hlast
        have hs1 : decide ((0 : Int) < (s.size : Int)) = true := decide_eq_true (by omega)
        clear hlast hx hc0 hs0
        by_cases h92 : ((s[m].toNat : Nat) : Int) = 92
        · go_wp2
          go_ret
          exact ⟨rfl, Below.refl _ _⟩
        · have b92 : (((s[m].toNat : Nat) : Int) == 92) = false := by simpa using h92
          go_wp2
          go_round
          case rel => exact ⟨k + 1, by omega, by go_num, fun j h hj => HS.out j h hj (by rw [HL.out]; intro e; exact h92 (by rw [Option.some.inj e]; rfl))⟩
          case measure => simp [intOf]; omega
    · have hPB : ppAt ⟨(ej (bytesOf ss)).toArray⟩ 0 [] = bytesOf ss := parse_back ss (by intro e; rw [e] at hsl; simp at hsl; omega) (fun j hj hj1 => HN.out j hj (by omega))
      have HPB : Hid (ppAt ⟨(ej (bytesOf ss)).toArray⟩ 0 [] = bytesOf ss) := hPB
      have hlen : (⟨(ej (bytesOf ss)).toArray⟩ : ByteArray).size ≤ 4194304 := by
        have q1 := ej_len (bytesOf ss)
        have q2 := HT.out
        have q3 : (bytesOf ss).length = n := by simp [bytesOf]; omega
        have q4 : (⟨(ej (bytesOf ss)).toArray⟩ : ByteArray).size = (ej (bytesOf ss)).length := by simp [ByteArray.size]
        omega
      have hbl : (bytesOf ss).length = n := by simp [bytesOf]; omega
      have HBL : Hid ((bytesOf ss).length = n) := hbl
      clear hPB hbl
      go_wp2_with fail
      refine (clone a n c ss _ S z0).mono ?_
      rintro e w2 ⟨x0, y0, rfl, T0, B1⟩
      go_wp2_with fail
      refine (escapeJoin x0 n y0 ss _ T0 z0 HT.out).mono ?_
      rintro e w3 ⟨rfl, B2⟩
      have D2 := B1.trans (B2.mono B1.size)
      go_wp2_with fail
      refine (parse_strs ⟨(ej (bytesOf ss)).toArray⟩ (bytesOf ss) n HBL.out HPB _ hlen).mono ?_
      rintro e w4 ⟨x1, y1, rfl, T1, B3⟩
      have D3 := D2.trans (B3.mono D2.size)
      go_wp2_with fail
      refine (equalStrs x1 x0 n y1 y0 _ ss _ T1 ((T0.below B2).below B3) hn (back_same ss)).mono ?_
      rintro e w5 ⟨rfl, B4⟩
      have D4 := D3.trans (B4.mono D3.size)
      go_wp2
      go_ret
      exact ⟨rfl, D4⟩

end Go.Proofs.Qxb6001352a.Inv
