import Derived.Test.Qxb6002630aProg
import Derived.WalkKit
import Derived.WalkSpells
namespace Go.Proofs.Qxb6002630a.Strs
open Go.RowKit

structure StrsAt (w : World) (a : Option Addr) (n c : Nat) (ss : List ByteArray) : Prop where
  len : ss.length = n
  nil : a = none → n = 0 ∧ c = 0
  cells : 0 < n → ∃ b off, a = some ⟨b, off, none⟩ ∧ ∀ i (h : i < ss.length), w.cell? ⟨b, off + i, none⟩ = some (.string ss[i])

theorem cell_lt {w : World} {p : Addr} {v : Value} (h : w.cell? p = some v) : p.block < w.heap.size := by
  rcases Nat.lt_or_ge p.block w.heap.size with h' | h'
  · exact h'
  · simp [World.cell?, Array.getElem?_eq_none h'] at h

theorem StrsAt.below {w w' : World} {a : Option Addr} {n c : Nat} {ss : List ByteArray} (S : StrsAt w a n c ss) (hb : Below w.heap.size w w') : StrsAt w' a n c ss := by
  refine ⟨S.len, S.nil, fun h => ?_⟩
  obtain ⟨b, off, ha, hc⟩ := S.cells h
  refine ⟨b, off, ha, fun i hi => ?_⟩
  have := hc i hi
  rw [hb.cell (p := ⟨b, off + i, none⟩) (cell_lt this)]
  exact this

set_option maxHeartbeats 1000000 in
set_option maxRecDepth 100000 in
theorem bytesOfStrings (a : Option Addr) (n c : Nat) (ss : List ByteArray) (w : World) (S : StrsAt w a n c ss) (hn : n ≤ 4096) :
    Calls Try.prog 11 #[.slice a n c] w fun e w' => (∃ t : Int, e = .returned (.int .i64 t) ∧ 0 ≤ t ∧ t ≤ 1048577) ∧ w' = w := by
  have hd : decide ((1048576 : Int) < 16 * (n : Int)) = false := decide_eq_false (by omega)
  have hd' : ¬ (1048576 : Int) < 16 * (n : Int) := by omega
  go_enter Try.func11, Try.ntmps11
  go_wp2
  go_loop [3, 4] (fun t i => ∃ (k : Nat) (x : Int), k ≤ n ∧ i = .int .i64 k ∧ t = .int .i64 x ∧ 0 ≤ x ∧ x ≤ 1048576) (fun _ i => n - (intOf i).toNat)
  case atStart => exact ⟨0, _, Nat.zero_le _, rfl, rfl, by omega, by omega⟩
  case round =>
    obtain ⟨k, x, hk, rfl, rfl, hx0, hx1⟩ := hrel
    by_cases hlt : k < n
    · obtain ⟨b, off, rfl, hcell⟩ := S.cells (by omega)
      have hkl : k < ss.length := by rw [S.len]; exact hlt
      have hc := hcell k hkl
      obtain ⟨s, hs⟩ : ∃ s, s = ss[k] := ⟨_, rfl⟩
      rw [← hs] at hc
      clear hcell hs
      by_cases h1 : (1048576 : Int) < (s.size : Int)
      · go_wp2
        go_ret
        exact ⟨⟨_, rfl, by omega, by omega⟩, rfl⟩
      · by_cases h2 : (1048576 : Int) < x + (s.size : Int)
        · go_wp2
          go_ret
          exact ⟨⟨_, rfl, by omega, by omega⟩, rfl⟩
        · go_wp2
          go_round
          case rel => exact ⟨k + 1, _, by omega, by go_num, rfl, by omega, by omega⟩
          case measure => simp [intOf]; omega
    · go_wp2
      go_ret
      exact ⟨⟨_, rfl, by omega, by omega⟩, rfl⟩

set_option maxHeartbeats 2000000 in
set_option maxRecDepth 100000 in
theorem bytes10 (a : Option Addr) (n c : Nat) (ss : List ByteArray) (s : ByteArray) (w : World) (S : StrsAt w a n c ss) (hn : n ≤ maxLen) (hs : s.size ≤ maxLen) :
    Calls Try.prog 10 #[.slice a n c, .string s] w fun e w' => (e = .returned (.bool false) ∨ e = .returned (.bool true)) ∧ w' = w := by
  unfold maxLen at hn hs
  by_cases hbig : (1048576 : Int) < (n : Int)
  · go_enter Try.func10, Try.ntmps10
    go_wp2
    go_ret
    exact ⟨.inl rfl, rfl⟩
  · have hd : decide ((1048576 : Int) < (n : Int)) = false := by simpa using hbig
    go_enter Try.func10, Try.ntmps10
    go_wp2
    go_loop [5, 6] (fun t i => ∃ (k : Nat) (x : Int), k ≤ n ∧ i = .int .i64 k ∧ t = .int .i64 x ∧ 0 ≤ x ∧ x ≤ 1048576) (fun _ i => n - (intOf i).toNat)
    case atStart => exact ⟨0, _, Nat.zero_le _, rfl, rfl, by omega, by omega⟩
    case round =>
      obtain ⟨k, x, hk, rfl, rfl, hx0, hx1⟩ := hrel
      by_cases hlt : k < n
      · obtain ⟨b, off, rfl, hcell⟩ := S.cells (by omega)
        have hkl : k < ss.length := by rw [S.len]; exact hlt
        have hc := hcell k hkl
        obtain ⟨y, hy⟩ : ∃ y, y = ss[k] := ⟨_, rfl⟩
        rw [← hy] at hc
        clear hcell hy
        by_cases h1 : (1048576 : Int) < (y.size : Int)
        · go_wp2
          go_ret
          exact ⟨.inl rfl, rfl⟩
        · by_cases h2 : (1048576 : Int) < x + (y.size : Int)
          · go_wp2
            go_ret
            exact ⟨.inl rfl, rfl⟩
          · go_wp2
            go_round
            case rel => exact ⟨k + 1, _, by omega, by go_num, rfl, by omega, by omega⟩
            case measure => simp [intOf]; omega
      · go_wp2
        all_goals
          go_ret
          first
          | exact ⟨.inl rfl, rfl⟩
          | exact ⟨.inr rfl, rfl⟩

theorem infoStr : (Try.prog.info? 9).map (fun i => (i.zero, i.size, i.bytes)) = some (some (.string ⟨#[]⟩), 1, 16) := by kernel_rfl

def strV (s : ByteArray) : Value := .string s

theorem set_take (ss : List ByteArray) (xs : List Value) (k : Nat) (hk : k < ss.length) (hx : xs.length = ss.length) (h : xs.take k = (ss.take k).map strV) : (xs.set k (strV ss[k])).take (k + 1) = (ss.take (k + 1)).map strV := by
  rw [List.take_succ_eq_append_getElem (by simp; omega), List.take_succ_eq_append_getElem hk, List.map_append, ← h]
  simp [List.take_set_of_le]

theorem owned_at {w : World} {base g n c : Nat} {ss : List ByteArray} {xs : List Value} (ho : w.ownsRow base 9 1 (.slice (some ⟨g, 0, none⟩) n c) n xs) (hl : ss.length = n) (hx : xs = ss.map strV) : StrsAt w (some ⟨g, 0, none⟩) n c ss := by
  refine ⟨hl, by simp, fun _ => ⟨g, 0, rfl, fun i hi => ?_⟩⟩
  rw [Nat.zero_add, ho.cellAt i (by omega), hx, List.getElem?_map, List.getElem?_eq_getElem hi]
  rfl

set_option maxHeartbeats 1000000 in
set_option maxRecDepth 100000 in
theorem clone (a : Option Addr) (n c : Nat) (ss : List ByteArray) (w : World) (S : StrsAt w a n c ss) (hn : n ≤ 1048576) :
    Calls Try.prog 12 #[.slice a n c] w fun e w' => ∃ a' c', e = .returned (.slice a' n c') ∧ StrsAt w' a' n c' ss ∧ Below w.heap.size w w' := by
  obtain ⟨i0, hi, hz0, hz1, hz2⟩ := info_parts infoStr
  have hnil := fun w => Lib.run_eql_slice_nil (P := Try.prog) w 28 9 a n c 0 0 Try.underlying28
  cases a with
  | none =>
    obtain ⟨rfl, rfl⟩ := S.nil rfl
    go_enter Try.func12, Try.ntmps12
    go_wp2
    go_ret
    exact ⟨none, 0, rfl, S, Below.refl _ _⟩
  | some ad =>
    go_enter Try.func12, Try.ntmps12
    go_wp2_with (at_make; refine wpList_make_full _ rfl _ _ 28 rfl w.heap.size 9 i0 (.string ⟨#[]⟩) 1 Try.underlying28 hi hz0 hz1 _ _ _ _ n rfl rfl (by omega) (by omega) ?c1 ?c2 ?c3 ?_)
    case c1 => rw [hz2]; omega
    case c2 => unfold maxLen; omega
    case c3 => exact Nat.le_refl _
    intro w1 hown hgrow
    have hb1 : Below w.heap.size w w1 := (Below.refl _ w).grown hgrow (Nat.le_refl _) (by simp)
    have hxl := hown.1
    clear hgrow
    go_wp2
    go_loopw [4] (fun i wr => ∃ (k : Nat) (xs : List Value), k ≤ n ∧ i = .int .i64 k ∧ wr.ownsRow w.heap.size 9 1 (.slice (some ⟨w.heap.size, 0, none⟩) n n) n xs ∧ Below w.heap.size w wr ∧ xs.take k = (ss.take k).map strV) (fun i _ => n - (intOf i).toNat)
    case atStart => exact ⟨0, _, Nat.zero_le _, rfl, hown, hb1, by simp⟩
    case round =>
      clear hown hb1 hxl
      obtain ⟨k, xs, hk, rfl, hown, hb, htk⟩ := hrel
      have hxl := hown.1
      have hsl := S.len
      by_cases hlt : k < n
      · obtain ⟨b, off, had, hcell⟩ := S.cells (by omega)
        obtain rfl : ad = ⟨b, off, none⟩ := by simpa using had
        have hkl : k < ss.length := by omega
        have hc0 := hcell k hkl
        have hc : wr.cell? ⟨b, off + k, none⟩ = some (.string ss[k]) := (hb.cell (p := ⟨b, off + k, none⟩) (cell_lt hc0)).trans hc0
        have hst := set_take ss xs k hkl (by omega) htk
        obtain ⟨s, hs⟩ : ∃ s, s = ss[k] := ⟨_, rfl⟩
        rw [← hs] at hc hst
        have hd : wr.cell? ⟨w.heap.size, k, none⟩ = some (xs[k]'(by omega)) := by rw [hown.cellAt k (by omega), List.getElem?_eq_getElem]
        have hf := hown.frozenAt k
        have hso := hown.stored k (.string s)
        obtain ⟨ho2, hg2⟩ := hso
        have HS : Hid ((xs.set k (strV s)).take (k + 1) = (ss.take (k + 1)).map strV) := hst
        generalize xs[k]'(by omega) = old at hd
        clear hc0 hcell hst hs htk hxl hsl had
        go_wp2
        go_roundw
        case rel => exact ⟨k + 1, xs.set k (.string s), by omega, by go_num, ho2, hb.grown hg2 hb.size (by simp), HS.out⟩
        case measure => simp [intOf]; omega
      · obtain rfl : k = n := by omega
        rw [List.take_of_length_le (by omega), List.take_of_length_le (by omega)] at htk
        have S2 := owned_at hown hsl htk
        clear hown htk
        go_wp2
        go_ret
        exact ⟨_, _, rfl, S2, hb⟩

end Go.Proofs.Qxb6002630a.Strs
