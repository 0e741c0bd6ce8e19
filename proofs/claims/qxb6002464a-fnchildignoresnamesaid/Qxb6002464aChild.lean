import Derived.Test.Qxb6002464aShelf
import Derived.WalkKit
import Derived.WalkSpells
namespace Go.Proofs.Qxb6002464a.Child
open Go.RowKit

theorem name_eq (n D e : List UInt8) (hl : n.length = D.length + 1 + e.length) (h47 : n[D.length]? = some 47) (hp : D <+: n) (hs : e <:+ n) : n = D ++ [47] ++ e := by
  obtain ⟨t, rfl⟩ := hp
  cases t with
  | nil => simp at hl; omega
  | cons c t =>
    simp at h47
    subst h47
    obtain ⟨u, hu⟩ := hs
    have h1 : e.length = t.length := by simp at hl; omega
    have h2 := List.append_inj' (s₁ := u) (s₂ := D ++ [47]) (t₁ := e) (t₂ := t) (by rw [hu]; simp) h1
    rw [h2.2]
    simp

theorem bytes_ext (a b : ByteArray) (h : a.data.toList = b.data.toList) : a = b := by
  cases a; cases b
  simp at h
  subst h
  rfl

theorem name_bytes (n D e : ByteArray) (hl : n.size = D.size + 1 + e.size) (hi : D.size < n.size) (h47 : ((n[D.size].toNat : Nat) : Int) = 47) (hp : Lib.hasPrefix n.data.toList D.data.toList = true) (hs : Lib.hasSuffix n.data.toList e.data.toList = true) : n = D ++ ⟨#[47]⟩ ++ e := by
  apply bytes_ext
  have := name_eq n.data.toList D.data.toList e.data.toList (by simpa using hl) (by
    have h : n[D.size] = 47 := UInt8.toNat_inj.1 (by have : (47 : UInt8).toNat = 47 := rfl; omega)
    rw [← h]
    have e1 : D.data.toList.length = D.size := by simp
    rw [e1, List.getElem?_eq_getElem (by simpa using hi)]
    rfl) (List.isPrefixOf_iff_prefix.1 hp) (List.isSuffixOf_iff_suffix.1 hs)
  rw [this]
  simp

theorem prefix_is (s p : ByteArray) (b : Bool) (w : World) (h : Hid (Lib.hasPrefix s.data.toList p.data.toList = b)) : Calls Try.prog 27 #[.string s, .string p] w fun e w' => e = .returned (.bool b) ∧ w' = w := by
  have := Try.strings_HasPrefix s p w
  rw [h.out] at this
  exact this

theorem suffix_is (s p : ByteArray) (b : Bool) (w : World) (hs : s.size ≤ 9223372036854775807) (h : Hid (Lib.hasSuffix s.data.toList p.data.toList = b)) : Calls Try.prog 28 #[.string s, .string p] w fun e w' => e = .returned (.bool b) ∧ w' = w := by
  have := Try.strings_HasSuffix s p w hs
  rw [h.out] at this
  exact this

set_option maxHeartbeats 2000000 in
set_option maxRecDepth 100000 in
theorem child_plain (d e n : ByteArray) (w : World) (hd : d.size ≤ 1048576) (he : e.size ≤ 1048576) (hn : n.size ≤ 4194304) (hr : (d.toList == [47]) = false) :
    Calls Try.prog 18 #[.string d, .string e, .string n] w fun r w' => r = .returned (.string (d ++ ⟨#[47]⟩ ++ e)) ∧ w' = w := by
  by_cases hsz : (n.size : Int) = (d.size : Int) + 1 + (e.size : Int)
  · have hlt : d.size < n.size := by omega
    have hszb : ((n.size : Int) == (d.size : Int) + 1 + (e.size : Int)) = true := by simpa using hsz
    have HSZ : Hid ((n.size : Int) = (d.size : Int) + 1 + (e.size : Int)) := hsz
    have hlt' : (d.size : Int) < (n.size : Int) := by omega
    clear hsz
    by_cases h47 : ((n[d.size].toNat : Nat) : Int) = 47
    · have H47 : Hid (((n[d.size].toNat : Nat) : Int) = 47) := h47
      have hb47 : (((n[d.size].toNat : Nat) : Int) == 47) = true := by simpa using h47
      clear h47
      cases hp : Lib.hasPrefix n.data.toList d.data.toList with
      | false =>
        have HP : Hid (Lib.hasPrefix n.data.toList d.data.toList = false) := hp
        clear hp
        go_enter Try.func18, Try.ntmps18
        go_wp2_with (go_at_call 27; refine (prefix_is n d false _ HP).mono ?_; rintro r w' ⟨rfl, rfl⟩)
        go_ret
        exact ⟨rfl, rfl⟩
      | true =>
        have HP : Hid (Lib.hasPrefix n.data.toList d.data.toList = true) := hp
        clear hp
        cases hs : Lib.hasSuffix n.data.toList e.data.toList with
        | false =>
          have HS : Hid (Lib.hasSuffix n.data.toList e.data.toList = false) := hs
          clear hs
          go_enter Try.func18, Try.ntmps18
          go_wp2_with (first | (go_at_call 27; refine (prefix_is n d true _ HP).mono ?_; rintro r w' ⟨rfl, rfl⟩) | (go_at_call 28; refine (suffix_is n e false _ (by omega) HS).mono ?_; rintro r w' ⟨rfl, rfl⟩))
          go_ret
          exact ⟨rfl, rfl⟩
        | true =>
          have HS : Hid (Lib.hasSuffix n.data.toList e.data.toList = true) := hs
          clear hs
          have HN : Hid (n = d ++ ⟨#[47]⟩ ++ e) := name_bytes n d e (by have := HSZ.out; omega) hlt H47.out HP.out HS.out
          go_enter Try.func18, Try.ntmps18
          go_wp2_with (first | (go_at_call 27; refine (prefix_is n d true _ HP).mono ?_; rintro r w' ⟨rfl, rfl⟩) | (go_at_call 28; refine (suffix_is n e true _ (by omega) HS).mono ?_; rintro r w' ⟨rfl, rfl⟩))
          go_ret
          exact ⟨by rw [← HN.out]; rfl, rfl⟩
    · have hb47 : (((n[d.size].toNat : Nat) : Int) == 47) = false := by simpa using h47
      go_enter Try.func18, Try.ntmps18
      go_wp2
      go_ret
      exact ⟨rfl, rfl⟩
  · have hszb : ((n.size : Int) == (d.size : Int) + 1 + (e.size : Int)) = false := by simpa using hsz
    go_enter Try.func18, Try.ntmps18
    go_wp2
    go_ret
    exact ⟨rfl, rfl⟩

set_option maxHeartbeats 2000000 in
set_option maxRecDepth 100000 in
theorem child_root (d e n : ByteArray) (w : World) (he : e.size ≤ 1048576) (hn : n.size ≤ 4194304) (hr : (d.toList == [47]) = true) :
    Calls Try.prog 18 #[.string d, .string e, .string n] w fun r w' => r = .returned (.string (⟨#[]⟩ ++ ⟨#[47]⟩ ++ e)) ∧ w' = w := by
  by_cases hsz : (n.size : Int) = 1 + (e.size : Int)
  · have hlt : 0 < n.size := by omega
    have hszb : ((n.size : Int) == 1 + (e.size : Int)) = true := by simpa using hsz
    have HSZ : Hid ((n.size : Int) = 1 + (e.size : Int)) := hsz
    have hlt' : (0 : Int) < (n.size : Int) := by omega
    clear hsz
    have HP : Hid (Lib.hasPrefix n.data.toList (⟨#[]⟩ : ByteArray).data.toList = true) := by simp [Hid, Lib.hasPrefix]
    by_cases h47 : ((n[0].toNat : Nat) : Int) = 47
    · have H47 : Hid (((n[0].toNat : Nat) : Int) = 47) := h47
      have hb47 : (((n[0].toNat : Nat) : Int) == 47) = true := by simpa using h47
      clear h47
      cases hs : Lib.hasSuffix n.data.toList e.data.toList with
      | false =>
        have HS : Hid (Lib.hasSuffix n.data.toList e.data.toList = false) := hs
        clear hs
        go_enter Try.func18, Try.ntmps18
        go_wp2_with (first | (go_at_call 27; refine (prefix_is n ⟨#[]⟩ true _ HP).mono ?_; rintro r w' ⟨rfl, rfl⟩) | (go_at_call 28; refine (suffix_is n e false _ (by omega) HS).mono ?_; rintro r w' ⟨rfl, rfl⟩))
        go_ret
        exact ⟨rfl, rfl⟩
      | true =>
        have HS : Hid (Lib.hasSuffix n.data.toList e.data.toList = true) := hs
        clear hs
        have HN : Hid (n = ⟨#[]⟩ ++ ⟨#[47]⟩ ++ e) := name_bytes n ⟨#[]⟩ e (by have := HSZ.out; have z : (⟨#[]⟩ : ByteArray).size = 0 := rfl; rw [z]; omega) hlt H47.out HP.out HS.out
        go_enter Try.func18, Try.ntmps18
        go_wp2_with (first | (go_at_call 27; refine (prefix_is n ⟨#[]⟩ true _ HP).mono ?_; rintro r w' ⟨rfl, rfl⟩) | (go_at_call 28; refine (suffix_is n e true _ (by omega) HS).mono ?_; rintro r w' ⟨rfl, rfl⟩))
        go_ret
        exact ⟨by rw [← HN.out]; rfl, rfl⟩
    · have hb47 : (((n[0].toNat : Nat) : Int) == 47) = false := by simpa using h47
      go_enter Try.func18, Try.ntmps18
      go_wp2
      go_ret
      exact ⟨rfl, rfl⟩
  · have hszb : ((n.size : Int) == 1 + (e.size : Int)) = false := by simpa using hsz
    go_enter Try.func18, Try.ntmps18
    go_wp2
    go_ret
    exact ⟨rfl, rfl⟩

set_option maxHeartbeats 4000000 in
set_option maxRecDepth 100000 in
theorem walk (d e n : ByteArray) (hd : d.size ≤ maxLen) (he : e.size ≤ maxLen) (hn : n.size ≤ maxLen) (w : World) :
    Calls Try.prog 5 #[.string d, .string e, .string n] w fun r w' => r = .returned (.bool true) ∧ Grown w w' := by
  unfold maxLen at hd he hn
  by_cases ht : (d.size : Int) + (e.size : Int) + (n.size : Int) ≤ 1048576
  · have g1 : ¬ (1048576 : Int) < (d.size : Int) := by omega
    have g2 : ¬ (1048576 : Int) < (e.size : Int) := by omega
    have g3 : ¬ (1048576 : Int) < (n.size : Int) := by omega
    have g4 : ¬ (1048576 : Int) < (d.size : Int) + (e.size : Int) := by omega
    have g5 : ¬ (1048576 : Int) < (d.size : Int) + (e.size : Int) + (n.size : Int) := by omega
    have d1 : decide ((1048576 : Int) < (d.size : Int)) = false := decide_eq_false g1
    have d2 : decide ((1048576 : Int) < (e.size : Int)) = false := decide_eq_false g2
    have d3 : decide ((1048576 : Int) < (n.size : Int)) = false := decide_eq_false g3
    have d5 : decide ((1048576 : Int) < (d.size : Int) + (e.size : Int) + (n.size : Int)) = false := decide_eq_false g5
    cases hr : (d.toList == [47]) with
    | false =>
      have hz : ∀ x : ByteArray, x.size = 1 → (d ++ x ++ e).size ≤ 4194304 := by
        intro x z
        simp only [ByteArray.size_append]
        omega
      go_enter Try.func5, Try.ntmps5
      go_wp2_with (go_at_call 17; go_in)
      refine (child_plain d e n _ (by omega) (by omega) (by omega) hr).mono ?_
      rintro r w' ⟨rfl, rfl⟩
      go_wp2_with fail
      refine (child_plain d e ⟨#[]⟩ _ (by omega) (by omega) (by have z : (⟨#[]⟩ : ByteArray).size = 0 := rfl; omega) hr).mono ?_
      rintro r w' ⟨rfl, rfl⟩
      go_wp2_with fail
      refine (child_plain d e _ _ (by omega) (by omega) (hz _ rfl) hr).mono ?_
      rintro r w' ⟨rfl, rfl⟩
      go_wp2
      go_ret
      exact ⟨by simp, Grown.refl _⟩
    | true =>
      have hz : ∀ x y : ByteArray, x.size = 0 → y.size = 1 → (x ++ y ++ e).size ≤ 4194304 := by
        intro x y z0 z
        simp only [ByteArray.size_append]
        omega
      go_enter Try.func5, Try.ntmps5
      go_wp2_with (go_at_call 17; go_in)
      refine (child_root d e n _ (by omega) (by omega) hr).mono ?_
      rintro r w' ⟨rfl, rfl⟩
      go_wp2_with fail
      refine (child_root d e ⟨#[]⟩ _ (by omega) (by have z : (⟨#[]⟩ : ByteArray).size = 0 := rfl; omega) hr).mono ?_
      rintro r w' ⟨rfl, rfl⟩
      go_wp2_with fail
      refine (child_root d e _ _ (by omega) (hz _ _ rfl rfl) hr).mono ?_
      rintro r w' ⟨rfl, rfl⟩
      go_wp2
      go_ret
      exact ⟨by simp, Grown.refl _⟩
  · go_enter Try.func5, Try.ntmps5
    go_wp2
    all_goals
      go_ret
      exact ⟨rfl, Grown.refl _⟩

end Go.Proofs.Qxb6002464a.Child
