import Derived.Test.Qxb6002630aProg
import Derived.Test.Qxb6002630aTxt
import Derived.WalkKit
import Derived.WalkSpells
namespace Go.Proofs.Qxb6002630a.Build
open Go.RowKit Go.Proofs.Qxb6002630a.Txt

theorem take_snoc (s : ByteArray) (k : Nat) (h : k < s.size) : s.data.toList.take (k + 1) = s.data.toList.take k ++ [s[k]] := by
  rw [List.take_succ_eq_append_getElem (by simpa using h)]; rfl

theorem byte32 (c : UInt8) : c = 32 ↔ (c.toNat : Int) = 32 := by
  constructor
  · rintro rfl; rfl
  · intro h; apply UInt8.toNat_inj.1; have : (32 : UInt8).toNat = 32 := rfl; omega

set_option maxHeartbeats 1000000 in
set_option maxRecDepth 100000 in
theorem hasByte (s : ByteArray) (b : Bool) (hb : Hid (decide (32 ∈ s.data.toList) = b)) (hs : s.size ≤ 1048576) (w : World) :
    Calls Try.prog 7 #[.string s, .int .u8 32] w fun e w' => e = .returned (.bool b) ∧ w' = w := by
  go_enter Try.func7, Try.ntmps7
  go_wp2
  go_loop [5] (fun i => ∃ k : Nat, k ≤ s.size ∧ i = .int .i64 k ∧ Hid (32 ∉ s.data.toList.take k)) (fun i => s.size - (intOf i).toNat)
  case atStart => exact ⟨0, Nat.zero_le _, rfl, by simp [Hid]⟩
  case round =>
    obtain ⟨k, hk, rfl, HK⟩ := hrel
    by_cases hlt : k < s.size
    · have HT : Hid (s.data.toList.take (k + 1) = s.data.toList.take k ++ [s[k]]) := take_snoc s k hlt
      have HM : Hid (s[k] ∈ s.data.toList) := by
        have : s[k] = s.data.toList[k]'(by simpa using hlt) := rfl
        rw [Hid, this]
        exact List.getElem_mem _
      have H32 : Hid (s[k] = 32 ↔ (s[k].toNat : Int) = 32) := byte32 s[k]
      by_cases h : ((s[k].toNat : Nat) : Int) = 32
      · have HB : Hid (b = true) := by
          rw [Hid, ← hb.out]
          have := HM.out
          rw [H32.out.2 h] at this
          simpa using this
        go_wp2
        go_ret
        exact ⟨by rw [HB.out]; rfl, rfl⟩
      · have hx : (((s[k].toNat : Nat) : Int) == 32) = false := by simpa using h
        have HN : Hid (32 ∉ s.data.toList.take (k + 1)) := by
          rw [Hid, HT.out]
          intro e
          rcases List.mem_append.1 e with e | e
          · exact HK.out e
          · exact h (H32.out.1 (List.mem_singleton.1 e).symm)
        go_wp2
        go_round
        case rel => exact ⟨k + 1, by omega, by go_num, HN⟩
        case measure => simp [intOf]; omega
    · have HB : Hid (b = false) := by
        have := HK.out
        rw [List.take_of_length_le (by simp; omega)] at this
        rw [Hid, ← hb.out]
        simpa using this
      go_wp2
      go_ret
      exact ⟨by rw [HB.out]; rfl, rfl⟩

theorem cnt_le (l : List UInt8) : cnt l ≤ l.length := List.count_le_length
theorem cnt_snoc (l : List UInt8) (c : UInt8) : cnt (l ++ [c]) = cnt l + if c = 32 then 1 else 0 := by
  unfold cnt
  by_cases h : c = 32
  · simp [h]
  · simp [h]

set_option maxHeartbeats 1000000 in
set_option maxRecDepth 100000 in
theorem countByte (s : ByteArray) (n : Nat) (hn : Hid (cnt s.data.toList = n)) (hs : s.size ≤ 4194304) (w : World) :
    Calls Try.prog 9 #[.string s, .int .u8 32] w fun e w' => e = .returned (.int .i64 (n : Int)) ∧ w' = w := by
  go_enter Try.func9, Try.ntmps9
  go_wp2
  go_loop [5, 6] (fun t i => ∃ k : Nat, k ≤ s.size ∧ i = .int .i64 k ∧ t = .int .i64 (cnt (s.data.toList.take k) : Int)) (fun _ i => s.size - (intOf i).toNat)
  case atStart => exact ⟨0, Nat.zero_le _, rfl, rfl⟩
  case round =>
    obtain ⟨k, hk, rfl, rfl⟩ := hrel
    have hcl := cnt_le (s.data.toList.take k)
    have hcl2 : (s.data.toList.take k).length ≤ k := List.length_take_le _ _
    by_cases hlt : k < s.size
    · have HT : Hid (cnt (s.data.toList.take (k + 1)) = cnt (s.data.toList.take k) + if s[k] = 32 then 1 else 0) := by
        rw [Hid, take_snoc s k hlt]; exact cnt_snoc _ _
      have H32 : Hid (s[k] = 32 ↔ (s[k].toNat : Int) = 32) := byte32 s[k]
      by_cases h : ((s[k].toNat : Nat) : Int) = 32
      · have HC : Hid (cnt (s.data.toList.take (k + 1)) = cnt (s.data.toList.take k) + 1) := by rw [Hid, HT.out, if_pos (H32.out.2 h)]
        go_wp2
        go_round
        case rel => exact ⟨k + 1, by omega, by go_num, by rw [HC.out]; go_num⟩
        case measure => simp [intOf]; omega
      · have hx : (((s[k].toNat : Nat) : Int) == 32) = false := by simpa using h
        have HC : Hid (cnt (s.data.toList.take (k + 1)) = cnt (s.data.toList.take k)) := by rw [Hid, HT.out, if_neg (fun e => h (H32.out.1 e))]; rfl
        go_wp2
        go_round
        case rel => exact ⟨k + 1, by omega, by go_num, by rw [HC.out]⟩
        case measure => simp [intOf]; omega
    · have HC : Hid (cnt (s.data.toList.take k) = n) := by rw [Hid, List.take_of_length_le (by simp; omega)]; exact hn.out
      go_wp2
      go_ret
      exact ⟨by rw [← HC.out]; rfl, rfl⟩

set_option maxHeartbeats 1000000 in
set_option maxRecDepth 100000 in
theorem buildString (v p m : ByteArray) (hv : v.size ≤ 1048576) (hp : p.size ≤ 1048576) (hm : m.size ≤ 1048576) (w : World) :
    Calls Try.prog 8 #[.agg #[.string v, .string p, .string m]] w fun e w' => ∃ R : ByteArray, e = .returned (.string R) ∧ Hid (R.data.toList = txt v.data.toList p.data.toList m.data.toList) ∧ R.size ≤ 4194304 ∧ w' = w.alloc (.cells #[.string v, .string p, .string m] 25) := by
  cases hd : (m.toList == [100, 101, 102, 97, 117, 108, 116]) with
  | true =>
    have HM : Hid (m.data.toList = dflt) := by rw [Hid, ← ByteArray.toList_eq]; exact eq_of_beq hd
    go_enter Try.func8, Try.ntmps8
    go_wp2
    go_ret
    refine ⟨_, rfl, ?_, ?_, rfl⟩
    · rw [Hid, txt, if_pos HM.out]; simp
    · simp only [ByteArray.size_append]
      show v.size + 1 + p.size ≤ 4194304
      omega
  | false =>
    have HM : Hid (¬ m.data.toList = dflt) := by
      rw [Hid, ← ByteArray.toList_eq]
      intro e
      rw [e] at hd
      simp [dflt] at hd
    go_enter Try.func8, Try.ntmps8
    go_wp2
    go_ret
    refine ⟨_, rfl, ?_, ?_, rfl⟩
    · rw [Hid, txt, if_neg HM.out]; simp
    · simp only [ByteArray.size_append]
      show v.size + 1 + p.size + (4 + m.size + 5) ≤ 4194304
      omega

end Go.Proofs.Qxb6002630a.Build
