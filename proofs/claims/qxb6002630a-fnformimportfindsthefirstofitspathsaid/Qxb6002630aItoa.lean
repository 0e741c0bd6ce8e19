import Derived.Test.Qxb6002630aProg
import Derived.Test.Qxb6002630aDec
import Derived.WalkKit
import Derived.WalkSpells
namespace Go.Proofs.Qxb6002630a.Form
open Go.RowKit Go.Proofs.Qxb6002630a.Dec

def cellsOf (l : List UInt8) : List Value := l.map fun b => Value.int .u8 b.toNat

def BufIs (w : World) (B : Nat) (i : Nat) (acc : List UInt8) : Prop :=
  ∃ arr : Array Value, w.heap[B]? = some (.cells arr 45 (0, 0)) ∧ arr.size = 24 ∧ arr.toList.drop i = cellsOf acc

theorem BufIs.cell {w : World} {B i : Nat} {acc : List UInt8} (h : BufIs w B i acc) (j : Nat) (hj : j < 24) : ∃ v, w.cell? ⟨B, j, none⟩ = some v := by
  obtain ⟨arr, hh, hs, _⟩ := h
  rw [cell_of_row w B j arr 45 (0, 0) hh]
  exact ⟨arr[j], Array.getElem?_eq_getElem (by omega)⟩

theorem BufIs.free {w : World} {B i : Nat} {acc : List UInt8} (h : BufIs w B i acc) (j : Nat) : w.frozen? ⟨B, j, none⟩ = false := by
  obtain ⟨arr, hh, hs, _⟩ := h
  exact frozen_of_row w B j arr 45 hh

theorem BufIs.store {w : World} {B i : Nat} {acc : List UInt8} (h : BufIs w B (i + 1) acc) (hi : i < 24) (c : UInt8) (n : Int) (hn : n = (c.toNat : Int)) : BufIs (w.setCell ⟨B, i, none⟩ (.int .u8 n)) B i (c :: acc) := by
  obtain ⟨arr, hh, hs, hd⟩ := h
  refine ⟨arr.setIfInBounds i (.int .u8 n), heap_setCell_same w B i arr 45 _ hh, by simpa using hs, ?_⟩
  subst hn
  rw [Array.toList_setIfInBounds, List.drop_eq_getElem_cons (by simp; omega), List.drop_set_of_lt (by omega), hd]
  simp [cellsOf]

theorem BufIs.asText {w : World} {B i : Nat} {acc : List UInt8} (h : BufIs w B i acc) (cap : Nat) : (convert 46 9 (.slice (some ⟨B, i, none⟩) acc.length cap)).run Try.prog w = .ok (.string ⟨acc.toArray⟩) w := by
  obtain ⟨arr, hh, hs, hd⟩ := h
  refine run_convert_bytes_back w 46 9 5 ⟨B, i, none⟩ cap acc Try.underlying46 Try.underlying5 Try.underlying9 fun j hj => ?_
  have ea : (⟨B, i, none⟩ : Addr).add j = ⟨B, i + j, none⟩ := by unfold Addr.add; split <;> simp_all
  rw [ea, cell_of_row w B (i + j) arr 45 (0, 0) hh]
  have := congrArg (fun l => l[j]?) hd
  simp only [List.getElem?_drop, cellsOf, List.getElem?_map, List.getElem?_eq_getElem hj, Option.map_some] at this
  simpa using this

theorem BufIs.len {w : World} {B i : Nat} {acc : List UInt8} (h : BufIs w B i acc) : acc.length = 24 - i := by
  obtain ⟨arr, hh, hs, hd⟩ := h
  have := congrArg List.length hd
  simp [cellsOf] at this
  omega

theorem slice24 (w : World) (B i : Nat) (hi : i < 24) : (Instr.sliceAt 45 (.pointer (some ⟨B, 0, none⟩)) (some (.int .i64 (i : Int))) none none).run Try.prog w = .ok (.slice (some ⟨B, i, none⟩) (24 - i) (24 - i)) w := by
  have ha : Try.prog.arrayLen 45 = 24 := by kernel_rfl
  have he : Try.prog.elem 45 = 5 := by kernel_rfl
  rw [run_sliceAt_array_l w 45 ⟨B, 0, none⟩ (by rw [ha, he]; exact Try.underlying45) .i64 i (by omega) (by rw [ha]; omega), ha, he, Try.sizeOf5]
  have ea : (⟨B, 0, none⟩ : Addr).add i = ⟨B, i, none⟩ := by unfold Addr.add; split <;> simp_all
  have hne : ¬ 24 = i := by omega
  simp [slicedAt, Result.andThen, ea, hne]

set_option maxHeartbeats 2000000 in
set_option maxRecDepth 100000 in
theorem itoa (n : Nat) (hn : n ≤ 4096) (w : World) :
    Calls Try.prog 13 #[.int .i64 (n : Int)] w fun e w' => e = .returned (.string ⟨(dec n).toArray⟩) ∧ Below w.heap.size w w' := by
  by_cases h0 : n = 0
  · subst h0
    go_enter Try.func13, Try.ntmps13
    go_wp2
    go_ret
    exact ⟨rfl, Below.refl _ _⟩
  · have hp : ¬ (n : Int) ≤ 0 := by omega
    have hd : decide ((n : Int) ≤ 0) = false := decide_eq_false hp
    go_enter Try.func13, Try.ntmps13
    go_wp2
    go_loopw [0, 4] (fun q i wr => ∃ (qq ii : Nat) (acc : List UInt8), ii ≤ 24 ∧ q = .int .i64 qq ∧ i = .int .i64 ii ∧ qq ≤ 4096 ∧ Hid (qq < 10 ^ ii) ∧ Hid (digs 24 n = digs ii qq ++ acc) ∧ BufIs wr w.heap.size ii acc ∧ Below w.heap.size w wr) (fun _ i _ => (intOf i).toNat)
    case atStart => exact ⟨n, 24, [], by omega, rfl, rfl, hn, Nat.lt_of_le_of_lt hn (by decide), by simp [Hid], ⟨_, heap_alloc_new w _, rfl, rfl⟩, (Below.refl _ _).alloc (Nat.le_refl _) _⟩
    case round =>
      obtain ⟨q, i, acc, hi, rfl, rfl, hq, HP, HD, HB, hb⟩ := hrel
      by_cases hq0 : q = 0
      · have hl := HB.len
        have HA : Hid (digs 24 n = acc) := by rw [Hid, HD.out, hq0, digs_zero]; rfl
        have HDC : Hid (dec n = acc) := by rw [Hid, dec, if_neg h0, HA.out]
        have hi' : i < 24 := by
          rcases Nat.lt_or_ge i 24 with h | h
          · exact h
          · have e : acc = [] := List.length_eq_zero_iff.1 (by omega)
            have := val_digs 24 n (Nat.lt_of_le_of_lt hn (by decide))
            rw [HA.out, e] at this
            simp [val] at this
            omega
        have hcv := HB.asText (24 - i)
        rw [hl] at hcv
        have hsl := slice24 wr w.heap.size i hi'
        have hq0' : ¬ (0 : Int) < (q : Int) := by omega
        clear HD HP HB hl hq0
        go_wp2
        go_ret
        exact ⟨by rw [HDC.out]; rfl, hb⟩
      · obtain ⟨j, rfl⟩ : ∃ j, i = j + 1 := by
          cases i with
          | zero => have := HP.out; simp at this; omega
          | succ j => exact ⟨j, rfl⟩
        have hq0' : (0 : Int) < (q : Int) := by omega
        obtain ⟨v, hc⟩ := HB.cell j (by omega)
        have hf := HB.free j
        have HS : Hid (digs (j + 1) q = digs j (q / 10) ++ [UInt8.ofNat (48 + q % 10)]) := digs_step j q hq0
        go_wp2
        go_roundw
        case rel =>
          refine ⟨q / 10, j, UInt8.ofNat (48 + q % 10) :: acc, by omega, by go_num, by go_num, by omega, ?_, ?_, ?_, hb.setCell (p := ⟨w.heap.size, j, none⟩) (Nat.le_refl _) _⟩
          · have := HP.out
            rw [Nat.pow_succ] at this
            rw [Hid]
            omega
          · rw [Hid, HD.out, HS.out]; simp
          · refine HB.store (by omega) _ _ ?_
            rw [UInt8.toNat_ofNat']
            omega
        case measure => simp [intOf]

end Go.Proofs.Qxb6002630a.Form
