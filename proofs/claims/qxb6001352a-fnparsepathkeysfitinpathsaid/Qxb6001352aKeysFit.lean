import Derived.Test.Qxb6001352aParse
import Derived.WalkKit
namespace Go.Proofs.Qxb6001352a.KeysFit
open Go.RowKit Go.Proofs.Qxb6001352a.Plain Go.Proofs.Qxb6001352a.Parse

theorem parse_call (s : ByteArray) (K : List (List UInt8)) (hK : Hid (ppAt s 0 [] = K)) (w : World) (hs : s.size ≤ 1048576) :
    Calls Try.prog 15 #[.string s] w fun e w' => ∃ g cap, e = .returned (.slice (some ⟨g, 0, none⟩) K.length cap) ∧ (∀ i (h : i < K.length), w'.cell? ⟨g, i, none⟩ = some (.string ⟨K[i].toArray⟩)) ∧ Below w.heap.size w w' := by
  refine (parse_walk s w (by omega)).mono ?_
  rw [hK.out]
  rintro e w' ⟨v, rfl, hown, hb⟩
  have hne : K.length ≠ 0 := fun e => pp_ne (s.data.toList.drop 0) [] (hK.out.trans (List.length_eq_zero_iff.1 e))
  obtain ⟨g, cap, rfl⟩ : ∃ g cap, v = .slice (some ⟨g, 0, none⟩) K.length cap := by
    rcases hown.2 with ⟨_, h⟩ | ⟨g, cap, cur, hv, _⟩
    · exact absurd h hne
    · exact ⟨g, cap, hv⟩
  refine ⟨g, cap, rfl, fun i h => ?_, hb⟩
  rw [hown.cellAt i (by omega), List.getElem?_map, List.getElem?_eq_getElem h]
  rfl

def has (c : UInt8) (l : List UInt8) : Bool := decide (c ∈ l)

theorem has_step (c : UInt8) (n : Nat) (hc : c.toNat = n) (s : ByteArray) (k : Nat) (h : k < s.size) : has c (s.data.toList.take (k + 1)) = (has c (s.data.toList.take k) || ((s[k].toNat : Int) == (n : Int))) := by
  unfold has
  rw [List.take_succ_eq_append_getElem (by simpa using h)]
  have e : (s.data.toList[k]'(by simpa using h)) = s[k] := rfl
  rw [e, Bool.eq_iff_iff]
  simp only [decide_eq_true_eq, Bool.or_eq_true, beq_iff_eq, List.mem_append, List.mem_singleton]
  constructor
  · rintro (a | a)
    · exact .inl a
    · right; rw [← a, hc]
  · rintro (a | a)
    · exact .inl a
    · right; apply UInt8.toNat_inj.1; omega

theorem total_step (K : List (List UInt8)) (k : Nat) (h : k < K.length) : total (K.take (k + 1)) = total (K.take k) + K[k].length := by
  unfold total
  rw [List.take_succ_eq_append_getElem h, List.map_append, List.sum_append]
  simp

theorem total_le (K : List (List UInt8)) (k : Nat) : total (K.take k) ≤ total K := by
  have hsplit := congrArg total (List.take_append_drop k K)
  rw [← hsplit]
  simp only [total, List.map_append, List.sum_append]
  omega

set_option maxHeartbeats 2000000 in
set_option maxRecDepth 100000 in
theorem walk (s : ByteArray) (w : World) (hs : s.size ≤ maxLen) :
    Calls Try.prog 5 #[.string s] w fun e w' => e = .returned (.bool true) ∧ Below w.heap.size w w' := by
  unfold maxLen at hs
  by_cases hbig : s.size ≤ 1048576
  · have hpt := pp_total (s.data.toList.drop 0) []
    have hne : ppAt s 0 [] ≠ [] := pp_ne _ _
    have hpt' : total (ppAt s 0 []) + (ppAt s 0 []).length ≤ s.size + 1 ∧ (92 ∉ s.data.toList → total (ppAt s 0 []) + (ppAt s 0 []).length = s.size + 1) ∧ (46 ∉ s.data.toList → ppAt s 0 [] = [s.data.toList]) := by
      simpa [ppAt] using hpt
    clear hpt
    generalize hK : ppAt s 0 [] = K at *
    have HK : Hid (ppAt s 0 [] = K) := hK
    clear hK
    obtain ⟨ht1, ht2, ht3⟩ := hpt'
    have HT2 : Hid (92 ∉ s.data.toList → total K + K.length = s.size + 1) := ht2
    have HT3 : Hid (46 ∉ s.data.toList → K = [s.data.toList]) := ht3
    clear ht2 ht3
    have hl : 0 < K.length := by cases K with | nil => exact absurd rfl hne | cons a b => simp
    have hl0 : ((K.length : Int) == 0) = false := by simp; omega
    clear hne
    have hd : decide ((1048576 : Int) < (s.size : Int)) = false := by simp; omega
    have hd' : ¬ ((1048576 : Int) < (s.size : Int)) := by omega
    go_enter Try.func5, Try.ntmps5
    go_wp2_with (first | (go_at_call 15; refine (parse_call s K HK _ hbig).mono ?_; rintro e w1 ⟨g, cap, rfl, hcell, hb⟩) | go_in)
    go_loop [4, 5] (fun t i => ∃ k : Nat, k ≤ K.length ∧ i = .int .i64 k ∧ t = .int .i64 ((K.length : Int) - 1 + (total (K.take k) : Int))) (fun _ i => K.length - (intOf i).toNat)
    case atStart => exact ⟨0, Nat.zero_le _, rfl, by simp [total]⟩
    case round =>
      obtain ⟨k, hk, rfl, rfl⟩ := hrel
      have hle := total_le K k
      by_cases hlt : k < K.length
      · have hc := hcell k hlt
        have hst := total_step K k hlt
        have hle' := total_le K (k + 1)
        have HS : Hid (total (K.take (k + 1)) = total (K.take k) + K[k].length) := hst
        have hKl : total (K.take k) + K[k].length ≤ s.size + 1 := by omega
        clear hst hle'
        go_wp2
        go_round
        case rel => exact ⟨k + 1, by omega, by go_num, by rw [HS.out]; go_num⟩
        case measure => simp [intOf]; omega
      · obtain rfl : k = K.length := by omega
        rw [List.take_length] at hle ⊢
        clear hle
        have hT : ¬ ((s.size : Int) < (K.length : Int) - 1 + (total K : Int)) := by omega
        have hT' : decide ((s.size : Int) < (K.length : Int) - 1 + (total K : Int)) = false := by simp; omega
        go_wp2
        go_loop [6, 7, 8] (fun p b i => ∃ k : Nat, k ≤ s.size ∧ i = .int .i64 k ∧ p = .bool (has 46 (s.data.toList.take k)) ∧ b = .bool (has 92 (s.data.toList.take k))) (fun _ _ i => s.size - (intOf i).toNat)
        case atStart => exact ⟨0, Nat.zero_le _, rfl, rfl, rfl⟩
        case round =>
          obtain ⟨k, hk, rfl, rfl, rfl⟩ := hrel
          by_cases hlt : k < s.size
          · have H1 : Hid (has 46 (s.data.toList.take (k + 1)) = (has 46 (s.data.toList.take k) || ((s[k].toNat : Int) == ((46 : Nat) : Int)))) := has_step 46 46 rfl s k hlt
            have H2 : Hid (has 92 (s.data.toList.take (k + 1)) = (has 92 (s.data.toList.take k) || ((s[k].toNat : Int) == ((92 : Nat) : Int)))) := has_step 92 92 rfl s k hlt
            by_cases h46 : ((s[k].toNat : Nat) : Int) = 46
            · go_wp2
              go_round
              case rel => exact ⟨k + 1, by omega, by go_num, by rw [H1.out, h46]; simp, by rw [H2.out, h46]; simp⟩
              case measure => simp [intOf]; omega
            · by_cases h92 : ((s[k].toNat : Nat) : Int) = 92
              · go_wp2
                go_round
                case rel => exact ⟨k + 1, by omega, by go_num, by rw [H1.out, h92]; simp, by rw [H2.out, h92]; simp⟩
                case measure => simp [intOf]; omega
              · have b1 : (((s[k].toNat : Nat) : Int) == 46) = false := by simpa using h46
                have b2 : (((s[k].toNat : Nat) : Int) == 92) = false := by simpa using h92
                go_wp2
                go_round
                case rel => exact ⟨k + 1, by omega, by go_num, by rw [H1.out]; simp [b1], by rw [H2.out]; simp [b2]⟩
                case measure => simp [intOf]; omega
          · obtain rfl : k = s.size := by omega
            have e1 : s.data.toList.take s.size = s.data.toList := List.take_of_length_le (by simp)
            rw [e1]
            clear e1
            have HU : has 92 s.data.toList = false → ((K.length : Int) - 1 + (total K : Int) != (s.size : Int)) = false := by
              intro h
              have := HT2.out (by simpa [has] using h)
              rw [bne_eq_false_iff_eq]
              omega
            have HV : has 46 s.data.toList = false → ((K.length : Int) != 1) = false ∧ w1.cell? ⟨g, 0, none⟩ = some (.string s) := by
              intro h
              have := HT3.out (by simpa [has] using h)
              subst this
              exact ⟨by simp, by simpa using hcell 0 (by simp)⟩
            clear HT2 HT3 hcell
            generalize has 92 s.data.toList = x at *
            generalize has 46 s.data.toList = y at *
            cases x <;> cases y
            · have hu := HU rfl
              have hv := HV rfl
              obtain ⟨hv1, hv2⟩ := hv
              clear HU HV
              go_wp2
              go_ret
              exact ⟨rfl, hb⟩
            · have hu := HU rfl
              clear HU HV
              go_wp2
              go_ret
              exact ⟨rfl, hb⟩
            · have hv := HV rfl
              obtain ⟨hv1, hv2⟩ := hv
              clear HU HV
              go_wp2
              go_ret
              exact ⟨rfl, hb⟩
            · clear HU HV
              go_wp2
              go_ret
              exact ⟨rfl, hb⟩
  · have hbig' : (1048576 : Int) < (s.size : Int) := by omega
    go_enter Try.func5, Try.ntmps5
    go_wp2
    go_ret
    exact ⟨rfl, Below.refl _ _⟩

end Go.Proofs.Qxb6001352a.KeysFit
