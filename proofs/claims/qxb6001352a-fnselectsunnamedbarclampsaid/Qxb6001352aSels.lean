import Derived.Test.Qxb6001352aStrs
import Derived.WalkKit
import Derived.WalkSpells
import Derived.Deep.RegionHeld3
import Derived.Deep.AppendLies
namespace Go.Proofs.Qxb6001352a.Sel
open Go.RowKit Go.Proofs.Qxb6001352a.Strs

theorem infoSel : (Try.prog.info? 57).map (fun i => (i.zero, i.size, i.bytes)) = some (some (.agg #[.string ⟨#[]⟩, .string ⟨#[]⟩]), 2, 32) := by kernel_rfl

def pairs (bs ns : List ByteArray) : List Value := (bs.zip ns).flatMap fun p => [.string p.1, .string p.2]

theorem pairs_snoc (bs ns : List ByteArray) (k : Nat) (h0 : k < bs.length) (h1 : k < ns.length) : pairs (bs.take (k + 1)) (ns.take (k + 1)) = pairs (bs.take k) (ns.take k) ++ [.string bs[k], .string ns[k]] := by
  unfold pairs
  rw [List.take_succ_eq_append_getElem h0, List.take_succ_eq_append_getElem h1, List.zip_append (by simp; omega)]
  simp

set_option maxHeartbeats 4000000 in
set_option maxRecDepth 100000 in
theorem sels (a0 a1 : Option Addr) (n0 c0 n1 c1 m : Nat) (s0 s1 : List ByteArray) (w : World) (S0 : StrsAt w a0 n0 c0 s0) (S1 : StrsAt w a1 n1 c1 s1) (h0 : n0 ≤ 1048576) (h1 : n1 ≤ 1048576) (hm : (n1 < n0 → m = n1) ∧ (¬ n1 < n0 → m = n0)) :
    Calls Try.prog 37 #[.slice a0 n0 c0, .slice a1 n1 c1] w fun e w' => ∃ v, e = .returned v ∧ w'.ownsRow w.heap.size 57 2 v m (pairs (s0.take m) (s1.take m)) ∧ Below w.heap.size w w' := by
  obtain ⟨i0, hi, hz0, hz1, hz2⟩ := info_parts infoSel
  have hm0 : m ≤ n0 := by by_cases h : n1 < n0 <;> simp [h] at hm <;> omega
  have hm1 : m ≤ n1 := by by_cases h : n1 < n0 <;> simp [h] at hm <;> omega
  by_cases hlt : (n1 : Int) < (n0 : Int)
  · have hd : decide ((n1 : Int) < (n0 : Int)) = true := by simpa using hlt
    have em := hm.1 (by omega)
    clear hm
    subst em
    go_enter Try.func37, Try.ntmps37
    go_wp2
    go_loopw [6, 7] (fun v i wr => ∃ k : Nat, k ≤ m ∧ i = .int .i64 k ∧ wr.ownsRow w.heap.size 57 2 v k (pairs (s0.take k) (s1.take k)) ∧ Below w.heap.size w wr) (fun _ i _ => m - (intOf i).toNat)
    case atStart => exact ⟨0, Nat.zero_le _, rfl, by simpa [pairs] using World.ownsRow_nil _ _ _ _, Below.refl _ _⟩
    case round =>
      obtain ⟨k, hk, rfl, hown, hb⟩ := hrel
      by_cases hlt : k < m
      · obtain ⟨b0, o0, rfl, hc0⟩ := S0.cells (by omega)
        obtain ⟨b1, o1, rfl, hc1⟩ := S1.cells (by omega)
        have l0 : k < s0.length := by rw [S0.len]; omega
        have l1 : k < s1.length := by rw [S1.len]; omega
        have e0 := hc0 k l0
        have e1 := hc1 k l1
        have t0 := cell_lt e0
        have t1 := cell_lt e1
        have d0 : wr.cell? ⟨b0, o0 + k, none⟩ = some (.string s0[k]) := (hb.cell (p := ⟨b0, o0 + k, none⟩) t0).trans e0
        have d1 : wr.cell? ⟨b1, o1 + k, none⟩ = some (.string s1[k]) := (hb.cell (p := ⟨b1, o1 + k, none⟩) t1).trans e1
        have HP : Hid (pairs (s0.take (k + 1)) (s1.take (k + 1)) = pairs (s0.take k) (s1.take k) ++ [.string s0[k], .string s1[k]]) := pairs_snoc s0 s1 k l0 l1
        generalize s0[k] = x at *
        generalize s1[k] = y at *
        clear hc0 hc1 e0 e1
        have i0' : (0 : Int) ≤ (k : Int) := Int.natCast_nonneg _
        have i1' : (k : Int) < (m : Int) := by omega
        have i2' : (k : Int) < (n0 : Int) := by omega
        have hsz := hb.size
        have hmax : k + 1 ≤ maxLen := by unfold maxLen; omega
        have hby : (k + 1) * 32 ≤ 140737488355328 := by omega
        have ag0 := fun e => Nat.not_lt.2 (hown.lt b0 e).1 t0
        have ag1 := fun e => Nat.not_lt.2 (hown.lt b1 e).1 t1
        go_wp2_with fail
        go_region_held3 (fun w' => w'.cell? ⟨b0, o0 + k, none⟩ = some (.string x) ∧ w'.cell? ⟨b1, o1 + k, none⟩ = some (.string y))
          (first
            | go_keep
            | (go_split_ands
               refine ⟨?_, ?_⟩
               · (rw [hgrow.cell_far _ (by simp; omega) (fun e => ag0 e.symm)]; assumption)
               · (rw [hgrow.cell_far _ (by simp; omega) (fun e => ag1 e.symm)]; assumption)))
          ((refine step_append_lies _ (by rfl) _ _ _ (by rfl) w.heap.size 57 i0 _ 2 32 Try.underlying41 hi hz0 hz1 hz2 rfl (by omega) _ k _ (by rfl) ((hown.alloc _).drew)
              ⟨wr.heap.size, 0, none⟩ 1 1 [.string x, .string y] (by rfl) (by rfl) (World.news_of_block (cs := #[.string x, .string y]) (t := 57) (fr := (0, 0)) (heap_alloc_new wr _)) (by simp [Value.oneCell'])
              (by omega) hmax hby (by simp; omega) (wr.heap.size + 1) (by simp) ?_; intro g cap w1 hown1 hgrow hat hlt1))
        have hb2 : Below w.heap.size w w1 := ((hb.alloc (by omega) _).drew).grown hgrow (by simp; omega) (fun k hk => (hown.lt k hk).1)
        clear hgrow hown
        go_wp2
        go_roundw
        case rel => exact ⟨k + 1, by omega, by go_num, by rw [HP.out]; exact hown1, hb2⟩
        case measure => simp [intOf]; omega
      · obtain rfl : k = m := by omega
        go_wp2
        go_ret
        exact ⟨_, rfl, hown, hb⟩
  · have hd : decide ((n1 : Int) < (n0 : Int)) = false := by simpa using hlt
    have em := hm.2 (by omega)
    clear hm
    subst em
    go_enter Try.func37, Try.ntmps37
    go_wp2
    go_loopw [6, 7] (fun v i wr => ∃ k : Nat, k ≤ m ∧ i = .int .i64 k ∧ wr.ownsRow w.heap.size 57 2 v k (pairs (s0.take k) (s1.take k)) ∧ Below w.heap.size w wr) (fun _ i _ => m - (intOf i).toNat)
    case atStart => exact ⟨0, Nat.zero_le _, rfl, by simpa [pairs] using World.ownsRow_nil _ _ _ _, Below.refl _ _⟩
    case round =>
      obtain ⟨k, hk, rfl, hown, hb⟩ := hrel
      by_cases hlt : k < m
      · obtain ⟨b0, o0, rfl, hc0⟩ := S0.cells (by omega)
        obtain ⟨b1, o1, rfl, hc1⟩ := S1.cells (by omega)
        have l0 : k < s0.length := by rw [S0.len]; omega
        have l1 : k < s1.length := by rw [S1.len]; omega
        have e0 := hc0 k l0
        have e1 := hc1 k l1
        have t0 := cell_lt e0
        have t1 := cell_lt e1
        have d0 : wr.cell? ⟨b0, o0 + k, none⟩ = some (.string s0[k]) := (hb.cell (p := ⟨b0, o0 + k, none⟩) t0).trans e0
        have d1 : wr.cell? ⟨b1, o1 + k, none⟩ = some (.string s1[k]) := (hb.cell (p := ⟨b1, o1 + k, none⟩) t1).trans e1
        have HP : Hid (pairs (s0.take (k + 1)) (s1.take (k + 1)) = pairs (s0.take k) (s1.take k) ++ [.string s0[k], .string s1[k]]) := pairs_snoc s0 s1 k l0 l1
        generalize s0[k] = x at *
        generalize s1[k] = y at *
        clear hc0 hc1 e0 e1
        have i0' : (0 : Int) ≤ (k : Int) := Int.natCast_nonneg _
        have i1' : (k : Int) < (m : Int) := by omega
        have i2' : (k : Int) < (n1 : Int) := by omega
        have hsz := hb.size
        have hmax : k + 1 ≤ maxLen := by unfold maxLen; omega
        have hby : (k + 1) * 32 ≤ 140737488355328 := by omega
        have ag0 := fun e => Nat.not_lt.2 (hown.lt b0 e).1 t0
        have ag1 := fun e => Nat.not_lt.2 (hown.lt b1 e).1 t1
        go_wp2_with fail
        go_region_held3 (fun w' => w'.cell? ⟨b0, o0 + k, none⟩ = some (.string x) ∧ w'.cell? ⟨b1, o1 + k, none⟩ = some (.string y))
          (first
            | go_keep
            | (go_split_ands
               refine ⟨?_, ?_⟩
               · (rw [hgrow.cell_far _ (by simp; omega) (fun e => ag0 e.symm)]; assumption)
               · (rw [hgrow.cell_far _ (by simp; omega) (fun e => ag1 e.symm)]; assumption)))
          ((refine step_append_lies _ (by rfl) _ _ _ (by rfl) w.heap.size 57 i0 _ 2 32 Try.underlying41 hi hz0 hz1 hz2 rfl (by omega) _ k _ (by rfl) ((hown.alloc _).drew)
              ⟨wr.heap.size, 0, none⟩ 1 1 [.string x, .string y] (by rfl) (by rfl) (World.news_of_block (cs := #[.string x, .string y]) (t := 57) (fr := (0, 0)) (heap_alloc_new wr _)) (by simp [Value.oneCell'])
              (by omega) hmax hby (by simp; omega) (wr.heap.size + 1) (by simp) ?_; intro g cap w1 hown1 hgrow hat hlt1))
        have hb2 : Below w.heap.size w w1 := ((hb.alloc (by omega) _).drew).grown hgrow (by simp; omega) (fun k hk => (hown.lt k hk).1)
        clear hgrow hown
        go_wp2
        go_roundw
        case rel => exact ⟨k + 1, by omega, by go_num, by rw [HP.out]; exact hown1, hb2⟩
        case measure => simp [intOf]; omega
      · obtain rfl : k = m := by omega
        go_wp2
        go_ret
        exact ⟨_, rfl, hown, hb⟩

end Go.Proofs.Qxb6001352a.Sel
