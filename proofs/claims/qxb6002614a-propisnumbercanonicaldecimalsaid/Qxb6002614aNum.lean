import Derived.Test.Qxb6002614aShelf
import Derived.WalkKit
import Derived.WalkSpells
namespace Go.Proofs.Qxb6002614a.Num
open Go.RowKit

def bad (x : Nat) : Bool := decide (x < 48) || decide (57 < x)
def okB (c : UInt8) : Bool := !bad c.toNat
def dig (s : ByteArray) : Bool := !s.data.toList.isEmpty && s.data.toList.all okB

theorem drop_at (s : ByteArray) (k : Nat) (h : k < s.size) : s.data.toList.drop k = s[k] :: s.data.toList.drop (k + 1) := by
  rw [List.drop_eq_getElem_cons (by simpa using h)]; rfl

theorem take_snoc (s : ByteArray) (k : Nat) (h : k < s.size) : s.data.toList.take (k + 1) = s.data.toList.take k ++ [s[k]] := by
  rw [List.take_succ_eq_append_getElem (by simpa using h)]; rfl

theorem bad_decode (s : ByteArray) (pos : Nat) (h : pos < s.size) : bad (Utf8.decode s pos).1 = bad (s[pos]).toNat ∧ (bad (s[pos]).toNat = false → (Utf8.decode s pos).2 = 1) := by
  by_cases ha : (s[pos]).toNat < 128
  · rw [decode_ascii s pos h ha]
    exact ⟨rfl, fun _ => rfl⟩
  · have h1 := (decode_high s pos h (by omega)).1
    have b1 : bad (Utf8.decode s pos).1 = true := by simp [bad]; omega
    have b2 : bad (s[pos]).toNat = true := by simp [bad]; omega
    exact ⟨by rw [b1, b2], fun e => by rw [b2] at e; cases e⟩

theorem idx_from (s : ByteArray) : ∀ (f pos : Nat), s.size ≤ pos + f → decide (0 ≤ Lib.idxFuncFrom bad true s f pos) = !(s.data.toList.drop pos).all okB
  | 0, pos, h => by
    rw [List.drop_of_length_le (by simp; omega)]
    simp [Lib.idxFuncFrom]
  | f + 1, pos, h => by
    by_cases hp : pos < s.size
    · obtain ⟨e1, e2⟩ := bad_decode s pos hp
      rw [drop_at s pos hp, List.all_cons]
      unfold Lib.idxFuncFrom
      rw [if_pos hp, e1]
      cases hb : bad (s[pos]).toNat with
      | true =>
        have : okB s[pos] = false := by simp [okB, hb]
        simp [this]
      | false =>
        have : okB s[pos] = true := by simp [okB, hb]
        rw [e2 hb, this]
        simpa using idx_from s f (pos + 1) (by omega)
    · rw [Lib.idxFuncFrom_end bad true s (f + 1) pos hp, List.drop_of_length_le (by simp; omega)]
      simp

theorem idx_all (s : ByteArray) : decide (0 ≤ Lib.idxFunc bad true s) = !s.data.toList.all okB := by
  have := idx_from s s.size 0 (by omega)
  rwa [List.drop_zero] at this

set_option maxHeartbeats 1000000 in
set_option maxRecDepth 100000 in
theorem closure (x : Nat) (hx : x ≤ 1114111) (w : World) : Calls Try.prog 11 #[.int .i32 (x : Int)] w fun e w' => e = .returned (.bool (bad x)) ∧ w' = w := by
  by_cases h1 : (x : Int) < 48
  · have hb : bad x = true := by simp [bad]; omega
    rw [hb]
    go_enter Try.func11, Try.ntmps11
    go_wp2
    go_ret
    exact ⟨rfl, rfl⟩
  · by_cases h2 : (57 : Int) < (x : Int)
    · have hb : bad x = true := by simp [bad]; omega
      rw [hb]
      go_enter Try.func11, Try.ntmps11
      go_wp2
      go_ret
      exact ⟨rfl, rfl⟩
    · have hb : bad x = false := by simp [bad]; omega
      rw [hb]
      go_enter Try.func11, Try.ntmps11
      go_wp2
      go_ret
      exact ⟨rfl, rfl⟩

theorem pred (w : World) : PredAtRunes Try.prog 11 #[] bad w := by
  intro W x hx _
  refine (closure x hx W).mono ?_
  rintro e w' ⟨rfl, rfl⟩
  exact ⟨rfl, 0, rfl⟩

theorem containsFunc (s : ByteArray) (b : Bool) (hb : Hid (s.data.toList.all okB = b)) (w : World) :
    Calls Try.prog 10 #[.string s, .func (.func 11) #[] #[]] w fun e w' => e = .returned (.bool (!b)) ∧ Below w.heap.size w w' := by
  have := Try.strings_ContainsFunc_runes 11 #[] (enters_of Try.func11 (by kernel_rfl) rfl) bad s w (pred w)
  rw [idx_all, hb.out] at this
  exact this

theorem dig_empty (s : ByteArray) (h : s.toList = []) : dig s = false := by
  rw [ByteArray.toList_eq] at h
  simp [dig, h]

theorem dig_full (s : ByteArray) (h : ¬ s.toList = []) : dig s = s.data.toList.all okB := by
  rw [ByteArray.toList_eq] at h
  have : s.data.toList.isEmpty = false := by simpa using h
  simp only [dig, this, Bool.not_false, Bool.true_and]

set_option maxHeartbeats 1000000 in
set_option maxRecDepth 100000 in
theorem isDigits (s : ByteArray) (b : Bool) (hb : Hid (dig s = b)) (w : World) :
    Calls Try.prog 9 #[.string s] w fun e w' => e = .returned (.bool b) ∧ Below w.heap.size w w' := by
  by_cases he : s.toList = []
  · obtain rfl : b = false := by rw [← hb.out, dig_empty s he]
    have hei : s.toList.isEmpty = true := by simp [he]
    go_enter Try.func9, Try.ntmps9
    go_wp2
    go_ret
    exact ⟨rfl, Below.refl _ _⟩
  · have HA : Hid (s.data.toList.all okB = b) := by rw [Hid, ← hb.out, dig_full s he]
    have hei : s.toList.isEmpty = false := by simpa using he
    clear he
    go_enter Try.func9, Try.ntmps9
    go_wp2_with (go_at_call 10; refine (containsFunc s b HA _).mono ?_; rintro e w1 ⟨rfl, hB⟩)
    go_ret
    exact ⟨by simp, hB⟩

theorem okB_iff (c : UInt8) : okB c = true ↔ 48 ≤ (c.toNat : Int) ∧ (c.toNat : Int) ≤ 57 := by
  simp [okB, bad]; omega

set_option maxHeartbeats 2000000 in
set_option maxRecDepth 100000 in
theorem allDigits (s : ByteArray) (b : Bool) (hb : Hid (dig s = b)) (hs : s.size ≤ maxLen) (w : World) :
    Calls Try.prog 7 #[.string s] w fun e w' => e = .returned (.bool b) ∧ w' = w := by
  unfold maxLen at hs
  by_cases he : s.size = 0
  · have he2 : s.toList = [] := by rw [ByteArray.toList_eq]; exact List.length_eq_zero_iff.1 (by simpa using he)
    obtain rfl : b = false := by rw [← hb.out, dig_empty s he2]
    have hei : ((s.size : Int) == 0) = true := beq_iff_eq.2 (by omega)
    clear he he2
    go_enter Try.func7, Try.ntmps7
    go_wp2
    go_ret
    exact ⟨rfl, rfl⟩
  · have he2 : ¬ s.toList = [] := by
      rw [ByteArray.toList_eq]
      intro e
      exact he (by have := congrArg List.length e; simpa using this)
    have HA : Hid (s.data.toList.all okB = b) := by rw [Hid, ← hb.out, dig_full s he2]
    have hei : ((s.size : Int) == 0) = false := beq_eq_false_iff_ne.2 (by omega)
    clear he2 hb
    go_enter Try.func7, Try.ntmps7
    go_wp2
    go_loop [3] (fun i => ∃ k : Nat, k ≤ s.size ∧ i = .int .i64 k ∧ Hid ((s.data.toList.take k).all okB = true)) (fun i => s.size - (intOf i).toNat)
    case atStart => exact ⟨0, Nat.zero_le _, rfl, by simp [Hid]⟩
    case round =>
      obtain ⟨k, hk, rfl, HK⟩ := hrel
      by_cases hlt : k < s.size
      · have HT : Hid (s.data.toList.take (k + 1) = s.data.toList.take k ++ [s[k]]) := take_snoc s k hlt
        have HO : Hid (okB s[k] = true ↔ 48 ≤ (s[k].toNat : Int) ∧ (s[k].toNat : Int) ≤ 57) := okB_iff s[k]
        have HM : Hid (s[k] ∈ s.data.toList) := by
          have : s[k] = s.data.toList[k]'(by simpa using hlt) := rfl
          rw [Hid, this]
          exact List.getElem_mem _
        by_cases h1 : (s[k].toNat : Int) < 48
        · have HF : Hid (b = false) := by
            rw [Hid, ← HA.out]
            rw [Bool.eq_false_iff]
            intro e
            have := HO.out.1 (List.all_eq_true.1 e _ HM.out)
            omega
          go_wp2
          go_ret
          exact ⟨by rw [HF.out]; rfl, rfl⟩
        · by_cases h2 : 57 < (s[k].toNat : Int)
          · have HF : Hid (b = false) := by
              rw [Hid, ← HA.out]
              rw [Bool.eq_false_iff]
              intro e
              have := HO.out.1 (List.all_eq_true.1 e _ HM.out)
              omega
            go_wp2
            go_ret
            exact ⟨by rw [HF.out]; rfl, rfl⟩
          · have HY : Hid (okB s[k] = true) := HO.out.2 (by omega)
            go_wp2
            go_round
            case rel => exact ⟨k + 1, by omega, by go_num, by rw [Hid, HT.out, List.all_append, HK.out]; simp [HY.out]⟩
            case measure => simp [intOf]; omega
      · have HB : Hid (b = true) := by
          have := HK.out
          rw [List.take_of_length_le (by simp; omega)] at this
          rw [Hid, ← HA.out, this]
        go_wp2
        go_ret
        exact ⟨by rw [HB.out]; rfl, rfl⟩

def NumIs (s : ByteArray) (b : Bool) : Prop :=
  (dig s = false ∧ b = false) ∨ (dig s = true ∧ ∃ h : 0 < s.size, (¬ ((s[0].toNat : Nat) : Int) = 48 ∧ b = true) ∨ (((s[0].toNat : Nat) : Int) = 48 ∧ s.size = 1 ∧ b = true) ∨ (((s[0].toNat : Nat) : Int) = 48 ∧ ¬ s.size = 1 ∧ b = false))

theorem numIs (s : ByteArray) : ∃ b, NumIs s b := by
  cases hd : dig s with
  | false => exact ⟨false, .inl ⟨hd, rfl⟩⟩
  | true =>
    have h0 : 0 < s.size := by
      rcases Nat.eq_zero_or_pos s.size with e | e
      · rw [dig_empty s (by rw [ByteArray.toList_eq]; exact List.length_eq_zero_iff.1 (by simpa using e))] at hd
        cases hd
      · exact e
    by_cases h48 : ((s[0].toNat : Nat) : Int) = 48
    · by_cases h1 : s.size = 1
      · exact ⟨true, .inr ⟨hd, h0, .inr (.inl ⟨h48, h1, rfl⟩)⟩⟩
      · exact ⟨false, .inr ⟨hd, h0, .inr (.inr ⟨h48, h1, rfl⟩)⟩⟩
    · exact ⟨true, .inr ⟨hd, h0, .inl ⟨h48, rfl⟩⟩⟩

set_option maxHeartbeats 2000000 in
set_option maxRecDepth 100000 in
theorem isNumber (s : ByteArray) (b : Bool) (hb : NumIs s b) (hs : s.size ≤ maxLen) (w : World) :
    Calls Try.prog 8 #[.string s] w fun e w' => e = .returned (.bool b) ∧ Below w.heap.size w w' := by
  unfold maxLen at hs
  rcases hb with ⟨hd, rfl⟩ | ⟨hd, h0, ⟨h48, rfl⟩ | ⟨h48, h1, rfl⟩ | ⟨h48, h1, rfl⟩⟩
  · have HD : Hid (dig s = false) := hd
    clear hd
    go_enter Try.func8, Try.ntmps8
    go_wp2_with (go_at_call 9; refine (isDigits s false HD _).mono ?_; rintro e w1 ⟨rfl, hB⟩)
    go_ret
    exact ⟨rfl, hB⟩
  · have HD : Hid (dig s = true) := hd
    have h0' : (0 : Int) < (s.size : Int) := by omega
    have hx : (((s[0].toNat : Nat) : Int) != 48) = true := by rw [bne_iff_ne]; exact h48
    clear hd
    go_enter Try.func8, Try.ntmps8
    go_wp2_with (go_at_call 9; refine (isDigits s true HD _).mono ?_; rintro e w1 ⟨rfl, hB⟩)
    go_ret
    exact ⟨rfl, hB⟩
  · have HD : Hid (dig s = true) := hd
    have h0' : (0 : Int) < (s.size : Int) := by omega
    have hx : (((s[0].toNat : Nat) : Int) != 48) = false := bne_eq_false_iff_eq.2 h48
    have hy : ((s.size : Int) == 1) = true := beq_iff_eq.2 (by omega)
    clear hd h48 h1
    go_enter Try.func8, Try.ntmps8
    go_wp2_with (go_at_call 9; refine (isDigits s true HD _).mono ?_; rintro e w1 ⟨rfl, hB⟩)
    go_ret
    exact ⟨rfl, hB⟩
  · have HD : Hid (dig s = true) := hd
    have h0' : (0 : Int) < (s.size : Int) := by omega
    have hx : (((s[0].toNat : Nat) : Int) != 48) = false := bne_eq_false_iff_eq.2 h48
    have hy : ((s.size : Int) == 1) = false := beq_eq_false_iff_ne.2 (by omega)
    clear hd h48 h1
    go_enter Try.func8, Try.ntmps8
    go_wp2_with (go_at_call 9; refine (isDigits s true HD _).mono ?_; rintro e w1 ⟨rfl, hB⟩)
    go_ret
    exact ⟨rfl, hB⟩

set_option maxHeartbeats 2000000 in
set_option maxRecDepth 100000 in
theorem canonical (s : ByteArray) (b : Bool) (hb : NumIs s b) (hs : s.size ≤ maxLen) (w : World) :
    Calls Try.prog 5 #[.string s] w fun e w' => e = .returned (.bool b) ∧ w' = w := by
  have hs' := hs
  unfold maxLen at hs
  rcases hb with ⟨hd, rfl⟩ | ⟨hd, h0, ⟨h48, rfl⟩ | ⟨h48, h1, rfl⟩ | ⟨h48, h1, rfl⟩⟩
  · have HD : Hid (dig s = false) := hd
    clear hd
    go_enter Try.func5, Try.ntmps5
    go_wp2_with (go_at_call 7; refine (allDigits s false HD hs' _).mono ?_; rintro e w1 ⟨rfl, rfl⟩)
    go_ret
    exact ⟨rfl, rfl⟩
  · have HD : Hid (dig s = true) := hd
    have h0' : (0 : Int) < (s.size : Int) := by omega
    have hx : (((s[0].toNat : Nat) : Int) != 48) = true := by rw [bne_iff_ne]; exact h48
    clear hd
    by_cases h1 : s.size = 1
    · have hy : ((s.size : Int) == 1) = true := beq_iff_eq.2 (by omega)
      clear h1
      go_enter Try.func5, Try.ntmps5
      go_wp2_with (go_at_call 7; refine (allDigits s true HD hs' _).mono ?_; rintro e w1 ⟨rfl, rfl⟩)
      go_ret
      exact ⟨rfl, rfl⟩
    · have hy : ((s.size : Int) == 1) = false := beq_eq_false_iff_ne.2 (by omega)
      go_enter Try.func5, Try.ntmps5
      go_wp2_with (go_at_call 7; refine (allDigits s true HD hs' _).mono ?_; rintro e w1 ⟨rfl, rfl⟩)
      go_ret
      exact ⟨rfl, rfl⟩
  · have HD : Hid (dig s = true) := hd
    have h0' : (0 : Int) < (s.size : Int) := by omega
    have hx : (((s[0].toNat : Nat) : Int) != 48) = false := bne_eq_false_iff_eq.2 h48
    have hy : ((s.size : Int) == 1) = true := beq_iff_eq.2 (by omega)
    clear hd h48 h1
    go_enter Try.func5, Try.ntmps5
    go_wp2_with (go_at_call 7; refine (allDigits s true HD hs' _).mono ?_; rintro e w1 ⟨rfl, rfl⟩)
    go_ret
    exact ⟨rfl, rfl⟩
  · have HD : Hid (dig s = true) := hd
    have h0' : (0 : Int) < (s.size : Int) := by omega
    have hx : (((s[0].toNat : Nat) : Int) != 48) = false := bne_eq_false_iff_eq.2 h48
    have hy : ((s.size : Int) == 1) = false := beq_eq_false_iff_ne.2 (by omega)
    clear hd h48 h1
    go_enter Try.func5, Try.ntmps5
    go_wp2_with (go_at_call 7; refine (allDigits s true HD hs' _).mono ?_; rintro e w1 ⟨rfl, rfl⟩)
    go_ret
    exact ⟨rfl, rfl⟩

set_option maxHeartbeats 2000000 in
set_option maxRecDepth 100000 in
theorem walk (s : ByteArray) (hs : s.size ≤ maxLen) (w : World) :
    Calls Try.prog 3 #[.string s] w fun e w' => e = .returned (.bool true) ∧ Below w.heap.size w w' := by
  have hs' := hs
  unfold maxLen at hs
  obtain ⟨b, HN⟩ := numIs s
  obtain ⟨c, HD⟩ : ∃ c, Hid (dig s = c) := ⟨_, rfl⟩
  by_cases hbig : (1048576 : Int) < (s.size : Int)
  · go_enter Try.func3, Try.ntmps3
    go_wp2
    go_ret
    exact ⟨rfl, Below.refl _ _⟩
  · have hd : decide ((1048576 : Int) < (s.size : Int)) = false := decide_eq_false hbig
    go_enter Try.func3, Try.ntmps3
    go_wp2_with (first | (go_at_call 8; refine (isNumber s b HN hs' _).mono ?_; rintro e w1 ⟨rfl, hB1⟩) | (go_at_call 4; go_in))
    refine (canonical s b HN hs' _).mono ?_
    rintro e w2 ⟨rfl, rfl⟩
    go_wp2_with (first | (go_at_call 9; refine (isDigits s c HD _).mono ?_; rintro e w3 ⟨rfl, hB3⟩) | (go_at_call 6; go_in))
    refine (allDigits s c HD hs' _).mono ?_
    rintro e w4 ⟨rfl, rfl⟩
    go_wp2
    go_ret
    exact ⟨by simp, hB1.trans (hB3.mono hB1.size)⟩

end Go.Proofs.Qxb6002614a.Num
