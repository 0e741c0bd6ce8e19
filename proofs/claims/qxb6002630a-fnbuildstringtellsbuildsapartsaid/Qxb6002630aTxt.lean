import Derived.KernelRfl
namespace Go.Proofs.Qxb6002630a.Txt

def dflt : List UInt8 := [100, 101, 102, 97, 117, 108, 116]
def txt (v p m : List UInt8) : List UInt8 := v ++ 32 :: (p ++ if m = dflt then [] else 32 :: ([105, 110, 32] ++ (m ++ [32, 109, 111, 100, 101])))

def cnt (l : List UInt8) : Nat := l.count 32

theorem cnt_none (l : List UInt8) (h : 32 ∉ l) : cnt l = 0 := List.count_eq_zero.2 h

theorem cnt_txt (v p m : List UInt8) (hv : 32 ∉ v) (hp : 32 ∉ p) (hm : 32 ∉ m) : cnt (txt v p m) = if m = dflt then 1 else 4 := by
  have e1 := cnt_none v hv
  have e2 := cnt_none p hp
  have e3 := cnt_none m hm
  unfold cnt at *
  unfold txt
  by_cases h : m = dflt
  · rw [if_pos h, if_pos h]
    simp [List.count_append, e1, e2]
  · rw [if_neg h, if_neg h]
    simp [List.count_append, e1, e2, e3]

theorem cut (a b r s : List UInt8) (ha : 32 ∉ a) (hb : 32 ∉ b) (h : a ++ 32 :: r = b ++ 32 :: s) : a = b ∧ r = s := by
  induction a generalizing b with
  | nil =>
    cases b with
    | nil => simpa using h
    | cons d b => simp at h; exact absurd h.1 (fun e => hb (by rw [← e]; simp))
  | cons c a ih =>
    cases b with
    | nil => simp at h; exact absurd h.1 (fun e => ha (by rw [e]; simp))
    | cons d b =>
      simp at h
      obtain ⟨rfl, h⟩ := h
      obtain ⟨h1, h2⟩ := ih b (fun x => ha (by simp [x])) (fun x => hb (by simp [x])) h
      exact ⟨by rw [h1], h2⟩

theorem txt_inj (v p m v' p' m' : List UInt8) (hv : 32 ∉ v) (hp : 32 ∉ p) (hv' : 32 ∉ v') (hp' : 32 ∉ p') : txt v p m = txt v' p' m' ↔ v = v' ∧ p = p' ∧ m = m' := by
  constructor
  · intro h
    unfold txt at h
    obtain ⟨h1, h⟩ := cut _ _ _ _ hv hv' h
    by_cases hm : m = dflt
    · by_cases hm' : m' = dflt
      · rw [if_pos hm, if_pos hm'] at h
        exact ⟨h1, by simpa using h, by rw [hm, hm']⟩
      · rw [if_pos hm, if_neg hm', List.append_nil] at h
        exact absurd (show 32 ∈ p by rw [h]; simp) hp
    · by_cases hm' : m' = dflt
      · rw [if_neg hm, if_pos hm', List.append_nil] at h
        exact absurd (show 32 ∈ p' by rw [← h]; simp) hp'
      · rw [if_neg hm, if_neg hm'] at h
        obtain ⟨h2, h⟩ := cut _ _ _ _ hp hp' h
        exact ⟨h1, h2, by simpa using h⟩
  · rintro ⟨rfl, rfl, rfl⟩
    rfl

end Go.Proofs.Qxb6002630a.Txt
