import Derived.KernelRfl
namespace Go.Proofs.Qxb6001352a.Plain

def pp : List UInt8 → List UInt8 → List (List UInt8)
  | [], cur => [cur]
  | [c], cur => if c = 46 then [cur, []] else [cur ++ [c]]
  | c :: d :: r, cur => if c = 92 ∧ d = 46 then pp r (cur ++ [46]) else if c = 46 then cur :: pp (d :: r) [] else pp (d :: r) (cur ++ [c])

theorem pp_dot (r cur : List UInt8) : pp (46 :: r) cur = cur :: pp r [] := by
  cases r with
  | nil => simp [pp]
  | cons d r => simp [pp]

theorem pp_esc (r cur : List UInt8) : pp (92 :: 46 :: r) cur = pp r (cur ++ [46]) := by simp [pp]

theorem pp_other (c : UInt8) (r cur : List UInt8) (h1 : c ≠ 46) (h2 : ¬ (c = 92 ∧ r.head? = some 46)) : pp (c :: r) cur = pp r (cur ++ [c]) := by
  cases r with
  | nil => simp [pp, h1]
  | cons d r => simp at h2; simp [pp, h1]; intro a b; exact absurd b (h2 a)

def ppAt (s : ByteArray) (k : Nat) (cur : List UInt8) : List (List UInt8) := pp (s.data.toList.drop k) cur

theorem drop_at (s : ByteArray) (k : Nat) (h : k < s.size) : s.data.toList.drop k = s[k] :: s.data.toList.drop (k + 1) := by
  rw [List.drop_eq_getElem_cons (by simpa using h)]; rfl

theorem ppAt_end (s : ByteArray) (k : Nat) (cur : List UInt8) (h : ¬ k < s.size) : ppAt s k cur = [cur] := by
  unfold ppAt
  rw [List.drop_of_length_le (by simp; omega)]
  simp [pp]

theorem byte_eq (c : UInt8) (n : Nat) (hn : n < 256) (h : (c.toNat : Int) = n) : c = UInt8.ofNat n := by
  apply UInt8.toNat_inj.1
  simp [UInt8.toNat_ofNat']
  omega

theorem ppAt_esc (s : ByteArray) (k : Nat) (cur : List UInt8) (h : k < s.size) (h' : k + 1 < s.size) (a : ((s[k].toNat : Nat) : Int) = 92) (b : ((s[k + 1].toNat : Nat) : Int) = 46) : ppAt s k cur = ppAt s (k + 2) (cur ++ [46]) := by
  unfold ppAt
  rw [drop_at s k h, drop_at s (k + 1) h', byte_eq s[k] 92 (by decide) a, byte_eq s[k + 1] 46 (by decide) b]
  exact pp_esc _ _

theorem ppAt_dot (s : ByteArray) (k : Nat) (cur : List UInt8) (h : k < s.size) (a : ((s[k].toNat : Nat) : Int) = 46) : ppAt s k cur = cur :: ppAt s (k + 1) [] := by
  unfold ppAt
  rw [drop_at s k h, byte_eq s[k] 46 (by decide) a]
  exact pp_dot _ _

theorem ppAt_other (s : ByteArray) (k : Nat) (cur : List UInt8) (h : k < s.size) (a : ¬ ((s[k].toNat : Nat) : Int) = 46) (b : ¬ (((s[k].toNat : Nat) : Int) = 92 ∧ ∃ h' : k + 1 < s.size, (((s[k + 1]'h').toNat : Nat) : Int) = 46)) : ppAt s k cur = ppAt s (k + 1) (cur ++ [s[k]]) := by
  unfold ppAt
  rw [drop_at s k h]
  refine pp_other _ _ _ (fun e => a (by rw [e]; rfl)) ?_
  rintro ⟨e1, e2⟩
  apply b
  refine ⟨by rw [e1]; rfl, ?_⟩
  by_cases h' : k + 1 < s.size
  · refine ⟨h', ?_⟩
    rw [drop_at s (k + 1) h'] at e2
    simp at e2
    rw [e2]; rfl
  · rw [List.drop_of_length_le (by simp; omega)] at e2
    simp at e2

theorem pp_ne (l : List UInt8) : ∀ cur, pp l cur ≠ [] := by
  suffices H : ∀ (n : Nat) (l : List UInt8), l.length ≤ n → ∀ cur, pp l cur ≠ [] from fun cur => H l.length l (Nat.le_refl _) cur
  intro n
  induction n with
  | zero => intro l hl cur; cases l with
    | nil => simp [pp]
    | cons c r => simp at hl
  | succ n ih =>
    intro l hl cur
    match l, hl with
    | [], _ => simp [pp]
    | [c], _ => by_cases h : c = 46 <;> simp [pp, h]
    | c :: d :: r, hl =>
      simp at hl
      by_cases h : c = 92 ∧ d = 46
      · simp only [pp, if_pos h]; exact ih r (by omega) _
      · by_cases h2 : c = 46
        · simp only [pp, if_neg h, if_pos h2]; simp
        · simp only [pp, if_neg h, if_neg h2]; exact ih (d :: r) (by simp; omega) _

def total (K : List (List UInt8)) : Nat := (K.map List.length).sum

theorem pp_total (l : List UInt8) : ∀ cur, total (pp l cur) + (pp l cur).length ≤ cur.length + l.length + 1 ∧ (92 ∉ l → total (pp l cur) + (pp l cur).length = cur.length + l.length + 1) ∧ (46 ∉ l → pp l cur = [cur ++ l]) := by
  suffices H : ∀ (n : Nat) (l : List UInt8), l.length ≤ n → ∀ cur, total (pp l cur) + (pp l cur).length ≤ cur.length + l.length + 1 ∧ (92 ∉ l → total (pp l cur) + (pp l cur).length = cur.length + l.length + 1) ∧ (46 ∉ l → pp l cur = [cur ++ l]) from fun cur => H l.length l (Nat.le_refl _) cur
  intro n
  induction n with
  | zero => intro l hl cur; cases l with
    | nil => simp [pp, total]
    | cons c r => simp at hl
  | succ n ih =>
    intro l hl cur
    cases l with
    | nil => simp [pp, total]
    | cons c r =>
      simp at hl
      by_cases h1 : c = 46
      · subst h1
        obtain ⟨a, b, _⟩ := ih r hl []
        rw [pp_dot]
        refine ⟨?_, ?_, ?_⟩
        · simp [total] at a ⊢; omega
        · intro hm
          have := b (fun x => hm (by simp [x]))
          simp [total] at this ⊢; omega
        · simp
      · by_cases h2 : c = 92 ∧ r.head? = some 46
        · obtain ⟨rfl, h2⟩ := h2
          match r, h2, hl with
          | d :: r, h2, hl =>
            simp at h2
            subst h2
            simp at hl
            obtain ⟨a, _, _⟩ := ih r (by omega) (cur ++ [46])
            rw [pp_esc]
            refine ⟨?_, ?_, ?_⟩
            · simp [total] at a ⊢; omega
            · simp
            · simp
        · obtain ⟨a, b, d⟩ := ih r hl (cur ++ [c])
          rw [pp_other c r cur h1 h2]
          refine ⟨?_, ?_, ?_⟩
          · simp [total] at a ⊢; omega
          · intro hm
            have := b (fun x => hm (by simp [x]))
            simp [total] at this ⊢; omega
          · intro hm
            rw [d (fun x => hm (by simp [x]))]
            simp

end Go.Proofs.Qxb6001352a.Plain
