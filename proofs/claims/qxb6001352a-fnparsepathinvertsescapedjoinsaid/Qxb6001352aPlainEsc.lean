import Derived.Test.Qxb6001352aPlain
namespace Go.Proofs.Qxb6001352a.Plain

def esc1 (c : UInt8) : List UInt8 := if c = 46 then [92, 46] else [c]
def esc (k : List UInt8) : List UInt8 := k.flatMap esc1
def ejt (ks : List (List UInt8)) : List UInt8 := ks.flatMap fun k => 46 :: esc k
def ej : List (List UInt8) → List UInt8
  | [] => []
  | k :: ks => esc k ++ ejt ks

theorem esc_cons (c : UInt8) (k : List UInt8) : esc (c :: k) = esc1 c ++ esc k := by simp [esc]
theorem esc_snoc (k : List UInt8) (c : UInt8) : esc (k ++ [c]) = esc k ++ esc1 c := by simp [esc]

theorem ej_snoc (l : List (List UInt8)) (x : List UInt8) (h : l ≠ []) : ej (l ++ [x]) = ej l ++ 46 :: esc x := by
  cases l with
  | nil => exact absurd rfl h
  | cons k ks => simp [ej, ejt]

theorem ej_one (x : List UInt8) : ej [x] = esc x := by simp [ej, ejt]

theorem esc1_len (c : UInt8) : (esc1 c).length ≤ 2 := by unfold esc1; split <;> simp

theorem esc_len (k : List UInt8) : (esc k).length ≤ 2 * k.length := by
  induction k with
  | nil => simp [esc]
  | cons c k ih =>
    have := esc1_len c
    rw [esc_cons]
    simp; omega

theorem ej_len (l : List (List UInt8)) : (ej l).length ≤ 2 * total l + l.length := by
  have H : ∀ ks : List (List UInt8), (ejt ks).length ≤ 2 * total ks + ks.length := by
    intro ks
    induction ks with
    | nil => simp [ejt]
    | cons k ks ih =>
      have := esc_len k
      have e : ejt (k :: ks) = 46 :: (esc k ++ ejt ks) := by simp [ejt]
      rw [e]
      simp [total] at ih ⊢
      omega
  cases l with
  | nil => simp [ej]
  | cons k ks =>
    have h1 := esc_len k
    have h2 := H ks
    simp [ej, total] at h2 ⊢
    omega

theorem head_esc (d : UInt8) (k r : List UInt8) : (esc (d :: k) ++ r).head? ≠ some 46 := by
  rw [esc_cons]
  unfold esc1
  split
  · simp
  · rename_i h
    simp
    exact h

theorem pp_key (k : List UInt8) : ∀ (cur r : List UInt8), k.getLast? ≠ some 92 → pp (esc k ++ 46 :: r) cur = (cur ++ k) :: pp r [] := by
  induction k with
  | nil => intro cur r _; simp [esc, pp_dot]
  | cons c k ih =>
    intro cur r hl
    have hl' : k.getLast? ≠ some 92 := by
      cases k with
      | nil => simp
      | cons d k => simpa [List.getLast?_cons] using hl
    by_cases hc : c = 46
    · subst hc
      have e : esc (46 :: k) ++ 46 :: r = 92 :: 46 :: (esc k ++ 46 :: r) := by simp [esc_cons, esc1]
      rw [e, pp_esc, ih _ _ hl']
      simp
    · have e : esc (c :: k) ++ 46 :: r = c :: (esc k ++ 46 :: r) := by simp [esc_cons, esc1, hc]
      rw [e, pp_other c _ cur hc, ih _ _ hl']
      · simp
      · rintro ⟨rfl, h2⟩
        cases k with
        | nil => simp at hl
        | cons d k => exact head_esc d k _ h2

theorem pp_last (k : List UInt8) : ∀ cur : List UInt8, pp (esc k) cur = [cur ++ k] := by
  induction k with
  | nil => intro cur; simp [esc, pp]
  | cons c k ih =>
    intro cur
    by_cases hc : c = 46
    · subst hc
      have e : esc (46 :: k) = 92 :: 46 :: esc k := by simp [esc_cons, esc1]
      rw [e, pp_esc, ih]
      simp
    · have e : esc (c :: k) = c :: esc k := by simp [esc_cons, esc1, hc]
      rw [e, pp_other c _ cur hc, ih]
      · simp
      · rintro ⟨rfl, h2⟩
        cases k with
        | nil => simp [esc] at h2
        | cons d k =>
          have := head_esc d k []
          rw [List.append_nil] at this
          exact this h2

theorem pp_ej (l : List (List UInt8)) (hne : l ≠ []) (h : ∀ i (hi : i + 1 < l.length), (l[i]'(by omega)).getLast? ≠ some 92) : pp (ej l) [] = l := by
  induction l with
  | nil => exact absurd rfl hne
  | cons k ks ih =>
    cases ks with
    | nil => rw [ej_one, pp_last]; simp
    | cons k' ks =>
      have e : ej (k :: k' :: ks) = esc k ++ 46 :: ej (k' :: ks) := by simp [ej, ejt]
      rw [e, pp_key k [] _ (h 0 (by simp)), ih (by simp)]
      · simp
      · intro i hi
        exact h (i + 1) (by simp at hi ⊢; omega)

theorem tot_step (K : List (List UInt8)) (k : Nat) (h : k < K.length) : total (K.take (k + 1)) = total (K.take k) + K[k].length := by
  unfold total
  rw [List.take_succ_eq_append_getElem h, List.map_append, List.sum_append]
  simp

theorem tot_le (K : List (List UInt8)) (k : Nat) : total (K.take k) ≤ total K := by
  have hsplit := congrArg total (List.take_append_drop k K)
  rw [← hsplit]
  simp only [total, List.map_append, List.sum_append]
  omega

theorem ej_take (K : List (List UInt8)) (k : Nat) (h : k < K.length) : ej (K.take (k + 1)) = ej (K.take k) ++ (if k = 0 then [] else [46]) ++ esc K[k] := by
  rw [List.take_succ_eq_append_getElem h]
  by_cases hk : k = 0
  · subst hk; simp [ej, ejt]
  · rw [ej_snoc _ _ (by intro e; have := congrArg List.length e; rw [List.length_take, List.length_nil] at this; omega)]
    simp [hk]

theorem esc_take (s : ByteArray) (j : Nat) (h : j < s.size) : esc (s.data.toList.take (j + 1)) = esc (s.data.toList.take j) ++ esc1 s[j] := by
  rw [List.take_succ_eq_append_getElem (by simpa using h), esc_snoc]
  rfl

end Go.Proofs.Qxb6001352a.Plain
