import Derived.KernelRfl
namespace Go.Proofs.Qxb6002630a.Dec

def digs : Nat → Nat → List UInt8
  | 0, _ => []
  | f + 1, n => if n = 0 then [] else digs f (n / 10) ++ [UInt8.ofNat (48 + n % 10)]

def dec (n : Nat) : List UInt8 := if n = 0 then [48] else digs 24 n

def val (l : List UInt8) : Nat := l.foldl (fun a c => a * 10 + (c.toNat - 48)) 0

theorem val_snoc (l : List UInt8) (c : UInt8) : val (l ++ [c]) = val l * 10 + (c.toNat - 48) := by simp [val]

theorem val_digs : ∀ (f n : Nat), n < 10 ^ f → val (digs f n) = n
  | 0, n, h => by simp at h; subst h; rfl
  | f + 1, n, h => by
    unfold digs
    by_cases h0 : n = 0
    · rw [if_pos h0, h0]; rfl
    · rw [if_neg h0, val_snoc, val_digs f (n / 10) (by rw [Nat.pow_succ] at h; omega)]
      have : (UInt8.ofNat (48 + n % 10)).toNat = 48 + n % 10 := by rw [UInt8.toNat_ofNat']; omega
      rw [this]
      omega

theorem val_dec (n : Nat) (h : n ≤ 4096) : val (dec n) = n := by
  unfold dec
  by_cases h0 : n = 0
  · rw [if_pos h0, h0]; rfl
  · rw [if_neg h0]
    exact val_digs 24 n (Nat.lt_of_le_of_lt h (by decide))

theorem dec_inj (a b : Nat) (ha : a ≤ 4096) (hb : b ≤ 4096) (h : dec a = dec b) : a = b := by
  rw [← val_dec a ha, ← val_dec b hb, h]

theorem digs_step (i q : Nat) (hq : q ≠ 0) : digs (i + 1) q = digs i (q / 10) ++ [UInt8.ofNat (48 + q % 10)] := by
  rw [digs, if_neg hq]

theorem digs_zero (i : Nat) : digs i 0 = [] := by cases i <;> simp [digs]

end Go.Proofs.Qxb6002630a.Dec
