import Derived.Test.Qxb6002630aImp
import Derived.WalkKit
import Derived.WalkSpells
import Derived.Deep.RegionHeld3
namespace Go.Proofs.Qxb6002630a.Form
open Go.RowKit Go.Proofs.Qxb6002630a.Dec Go.Proofs.Qxb6002630a.Strs

theorem infoImp : (Try.prog.info? 35).map (fun i => (i.zero, i.size, i.bytes)) = some (some (.agg #[.string ⟨#[]⟩, .string ⟨#[]⟩, .string ⟨#[]⟩, .string ⟨#[]⟩, .string ⟨#[]⟩, .slice none 0 0]), 6, 104) := by kernel_rfl

def Upto (xs : List Value) (ss : List ByteArray) (k : Nat) : Prop :=
  ∀ i (h : i < ss.length), i < k → xs[i * 6]? = some (.string ss[i]) ∧ xs[i * 6 + 1]? = some (.string ⟨#[]⟩) ∧ xs[i * 6 + 2]? = some (.string ⟨#[]⟩) ∧ xs[i * 6 + 3]? = some (.string ⟨#[]⟩) ∧ xs[i * 6 + 4]? = some (.string ⟨(dec i).toArray⟩) ∧ xs[i * 6 + 5]? = some (.slice none 0 0)

theorem owns_below {w w' : World} {B : Nat} {e : TypeId} {size : Nat} {v : Value} {n : Nat} {xs : List Value} (h : w.ownsRow B e size v n xs) (hb : Below w.heap.size w w') : w'.ownsRow B e size v n xs := by
  refine ⟨h.1, ?_⟩
  rcases h.2 with hn | ⟨g, cap, cur, hv, hg, hh, r⟩
  · exact .inl hn
  · exact .inr ⟨g, cap, cur, hv, hg, (hb.block g (Array.getElem?_eq_some_iff.1 hh).1).trans hh, r⟩

theorem cell_set {w : World} {p q : Addr} {v : Value} (h : p.block ≠ q.block) : (w.setCell q v).cell? p = w.cell? p :=
  World.cell?_of_block (Below.heap_setCell w q v p.block h)

theorem six_other {w : World} {b o0 o1 o2 o3 o4 o5 : Nat} {v0 v1 v2 v3 v4 v5 : Value} {p : Addr} (h : p.block ≠ b) : (six w b o0 o1 o2 o3 o4 o5 v0 v1 v2 v3 v4 v5).cell? p = w.cell? p := by
  unfold six
  rw [cell_set h, cell_set h, cell_set h, cell_set h, cell_set h, cell_set h]

theorem upto_step {xs : List Value} {ss : List ByteArray} {k : Nat} (hk : k < ss.length) (hl : k * 6 + 5 < xs.length) (h : Upto xs ss k) :
    Upto ((((((xs.set (k * 6) (.string ss[k])).set (k * 6 + 1) (.string ⟨#[]⟩)).set (k * 6 + 2) (.string ⟨#[]⟩)).set (k * 6 + 3) (.string ⟨#[]⟩)).set (k * 6 + 4) (.string ⟨(dec k).toArray⟩)).set (k * 6 + 5) (.slice none 0 0)) ss (k + 1) := by
  intro i hi hik
  by_cases e : i = k
  · subst e
    refine ⟨?_, ?_, ?_, ?_, ?_, ?_⟩
    · rw [List.getElem?_set_ne (by omega), List.getElem?_set_ne (by omega), List.getElem?_set_ne (by omega), List.getElem?_set_ne (by omega), List.getElem?_set_ne (by omega), List.getElem?_set_self (by omega)]
    · rw [List.getElem?_set_ne (by omega), List.getElem?_set_ne (by omega), List.getElem?_set_ne (by omega), List.getElem?_set_ne (by omega), List.getElem?_set_self (by simp; omega)]
    · rw [List.getElem?_set_ne (by omega), List.getElem?_set_ne (by omega), List.getElem?_set_ne (by omega), List.getElem?_set_self (by simp; omega)]
    · rw [List.getElem?_set_ne (by omega), List.getElem?_set_ne (by omega), List.getElem?_set_self (by simp; omega)]
    · rw [List.getElem?_set_ne (by omega), List.getElem?_set_self (by simp; omega)]
    · rw [List.getElem?_set_self (by simp; omega)]
  · have q : ∀ j, j < 6 → ((((((xs.set (k * 6) (.string ss[k])).set (k * 6 + 1) (.string ⟨#[]⟩)).set (k * 6 + 2) (.string ⟨#[]⟩)).set (k * 6 + 3) (.string ⟨#[]⟩)).set (k * 6 + 4) (.string ⟨(dec k).toArray⟩)).set (k * 6 + 5) (.slice none 0 0))[i * 6 + j]? = xs[i * 6 + j]? := by
      intro j hj
      rw [List.getElem?_set_ne (by omega), List.getElem?_set_ne (by omega), List.getElem?_set_ne (by omega), List.getElem?_set_ne (by omega), List.getElem?_set_ne (by omega), List.getElem?_set_ne (by omega)]
    obtain ⟨a0, a1, a2, a3, a4, a5⟩ := h i hi (by omega)
    exact ⟨(q 0 (by omega)).trans a0, (q 1 (by omega)).trans a1, (q 2 (by omega)).trans a2, (q 3 (by omega)).trans a3, (q 4 (by omega)).trans a4, (q 5 (by omega)).trans a5⟩

theorem six_owned {w : World} {B n : Nat} {xs : List Value} (h : w.ownsRow B 35 6 (.slice (some ⟨B, 0, none⟩) n n) n xs) (o0 o1 o2 o3 o4 o5 : Nat) (v0 v1 v2 v3 v4 v5 : Value) :
    (six w B o0 o1 o2 o3 o4 o5 v0 v1 v2 v3 v4 v5).ownsRow B 35 6 (.slice (some ⟨B, 0, none⟩) n n) n ((((((xs.set o0 v0).set o1 v1).set o2 v2).set o3 v3).set o4 v4).set o5 v5) :=
  ((((((h.stored o0 v0).1.stored o1 v1).1.stored o2 v2).1.stored o3 v3).1.stored o4 v4).1.stored o5 v5).1

theorem ImpsAt.below {w w' : World} {a : Option Addr} {n : Nat} {ss : List ByteArray} (S : ImpsAt w a n ss) (hb : Below w.heap.size w w') : ImpsAt w' a n ss := by
  refine ⟨S.len, fun h => ?_⟩
  obtain ⟨g, ha, hc⟩ := S.cells h
  refine ⟨g, ha, fun i hi => ?_⟩
  obtain ⟨a0, a1, a2, a3, a4, a5⟩ := hc i hi
  exact ⟨(hb.cell (cell_lt a0)).trans a0, (hb.cell (cell_lt a1)).trans a1, (hb.cell (cell_lt a2)).trans a2, (hb.cell (cell_lt a3)).trans a3, (hb.cell (cell_lt a4)).trans a4, (hb.cell (cell_lt a5)).trans a5⟩

theorem imps_of {w : World} {B n : Nat} {xs : List Value} {ss : List ByteArray} (h : w.ownsRow B 35 6 (.slice (some ⟨B, 0, none⟩) n n) n xs) (hl : ss.length = n) (hu : Upto xs ss n) : ImpsAt w (some ⟨B, 0, none⟩) n ss := by
  refine ⟨hl, fun _ => ⟨B, rfl, fun i hi => ?_⟩⟩
  have hx := h.1
  obtain ⟨a0, a1, a2, a3, a4, a5⟩ := hu i hi (by omega)
  exact ⟨(h.cellAt _ (by omega)).trans a0, (h.cellAt _ (by omega)).trans a1, (h.cellAt _ (by omega)).trans a2, (h.cellAt _ (by omega)).trans a3, (h.cellAt _ (by omega)).trans a4, (h.cellAt _ (by omega)).trans a5⟩

set_option maxHeartbeats 8000000 in
set_option maxRecDepth 100000 in
theorem walk (a : Option Addr) (n c : Nat) (ss : List ByteArray) (path : ByteArray) (w : World) (S : StrsAt w a n c ss) (hn : n ≤ maxLen) (hp : path.size ≤ maxLen) :
    Calls Try.prog 4 #[.slice a n c, .string path] w fun e w' => e = .returned (.bool true) ∧ Below w.heap.size w w' := by
  obtain ⟨i0, hi, hz0, hz1, hz2⟩ := info_parts infoImp
  go_enter Try.func4, Try.ntmps4
  go_wp2_with fail
  refine (bytes10 a n c ss path _ S hn hp).mono ?_
  rintro e w1 ⟨rfl | rfl, rfl⟩
  · go_wp2
    go_ret
    exact ⟨rfl, Below.refl _ _⟩
  by_cases hbig : (4096 : Int) < (n : Int)
  · go_wp2
    go_ret
    exact ⟨rfl, Below.refl _ _⟩
  have hn' : n ≤ 4096 := by omega
  have hd1 : decide ((4096 : Int) < (n : Int)) = false := decide_eq_false hbig
  by_cases hbig2 : (1048576 : Int) < (path.size : Int)
  · go_wp2
    go_ret
    exact ⟨rfl, Below.refl _ _⟩
  have hd2 : decide ((1048576 : Int) < (path.size : Int)) = false := decide_eq_false hbig2
  go_wp2_with fail
  refine (bytesOfStrings a n c ss _ S hn').mono ?_
  rintro e w1 ⟨⟨t, rfl, ht0, ht1⟩, rfl⟩
  by_cases hbig3 : (1048576 : Int) < (path.size : Int) + t
  · go_wp2
    go_ret
    exact ⟨rfl, Below.refl _ _⟩
  have hd3 : decide ((1048576 : Int) < (path.size : Int) + t) = false := decide_eq_false hbig3
  go_wp2_with fail
  refine (clone a n c ss _ S (by omega)).mono ?_
  rintro e w2 ⟨x, y, rfl, T, B1⟩
  have hnil := fun w => run_neq_slice_nil_any (P := Try.prog) w 28 9 x n y 0 0 Try.underlying28
  cases x with
  | none =>
    obtain ⟨rfl, rfl⟩ := T.nil rfl
    have hsl := T.len
    have hnil32 := fun w => Lib.run_eql_slice_nil (P := Try.prog) w 32 35 none 0 0 0 0 Try.underlying32
    have I : ImpsAt w2 none 0 ss := ⟨hsl, fun h => absurd h (by omega)⟩
    go_wp2_with fail
    refine (import_is _ 0 0 ss path _ (I.below ((Below.refl _ w2).alloc (Nat.le_refl _) _)) hn').mono ?_
    rintro e w5 ⟨HX, B5⟩
    have B6 : Below w2.heap.size w2 w5 := ((Below.refl _ w2).alloc (Nat.le_refl _) _).trans (B5.mono (by simp))
    have BW : Below w1.heap.size w1 w5 := B1.trans (B6.mono B1.size)
    clear B5 B6 T S B1
    rcases HX with ⟨j, hj, HE, HM, rfl⟩ | ⟨HN, rfl⟩
    · omega
    · obtain ⟨X, hX⟩ : ∃ X : Array Value, X = #[.string ⟨#[]⟩, .string ⟨#[]⟩, .string ⟨#[]⟩, .string ⟨#[]⟩, .string ⟨#[]⟩, .slice none 0 0] := ⟨_, rfl⟩
      have C0 : (w5.alloc (.cells X 35)).cell? ⟨w5.heap.size, 0, none⟩ = some (.string ⟨#[]⟩) := by rw [World.cell?_alloc_at _ _ _ _ rfl, hX]; rfl
      have C1 : (w5.alloc (.cells X 35)).cell? ⟨w5.heap.size, 1, none⟩ = some (.string ⟨#[]⟩) := by rw [World.cell?_alloc_at _ _ _ _ rfl, hX]; rfl
      have C2 : (w5.alloc (.cells X 35)).cell? ⟨w5.heap.size, 2, none⟩ = some (.string ⟨#[]⟩) := by rw [World.cell?_alloc_at _ _ _ _ rfl, hX]; rfl
      have C3 : (w5.alloc (.cells X 35)).cell? ⟨w5.heap.size, 3, none⟩ = some (.string ⟨#[]⟩) := by rw [World.cell?_alloc_at _ _ _ _ rfl, hX]; rfl
      have C4 : (w5.alloc (.cells X 35)).cell? ⟨w5.heap.size, 4, none⟩ = some (.string ⟨#[]⟩) := by rw [World.cell?_alloc_at _ _ _ _ rfl, hX]; rfl
      have C5 : (w5.alloc (.cells X 35)).cell? ⟨w5.heap.size, 5, none⟩ = some (.slice none 0 0) := by rw [World.cell?_alloc_at _ _ _ _ rfl, hX]; rfl
      have BX := BW.alloc BW.size (.cells X 35)
      clear BW
      go_wp2
      rw [← hX]
      generalize w5.alloc (.cells X 35) = W at C0 C1 C2 C3 C4 C5 BX ⊢
      clear hX
      go_loop [10, 11] (fun e i => i = .int .i64 0 ∧ e = .bool false) (fun _ _ => 0)
      case atStart => exact ⟨rfl, rfl⟩
      case round =>
        obtain ⟨rfl, rfl⟩ := hrel
        go_wp2
        go_ret
        exact ⟨rfl, BX⟩
  | some ad =>
    go_wp2_with (at_make; refine wpList_make_full _ rfl _ _ 32 rfl w2.heap.size 35 i0 (.agg #[.string ⟨#[]⟩, .string ⟨#[]⟩, .string ⟨#[]⟩, .string ⟨#[]⟩, .string ⟨#[]⟩, .slice none 0 0]) 6 Try.underlying32 hi hz0 hz1 _ _ _ _ n rfl rfl (by omega) (by omega) ?c1 ?c2 ?c3 ?_)
    case c1 => rw [hz2]; omega
    case c2 => unfold maxLen; omega
    case c3 => exact Nat.le_refl _
    intro w3 hown hgrow
    have B2 : Below w2.heap.size w2 w3 := (Below.refl _ w2).grown hgrow (Nat.le_refl _) (by simp)
    clear hgrow
    go_wp2
    go_loopw [6] (fun i wr => ∃ (k : Nat) (xs : List Value), k ≤ n ∧ i = .int .i64 k ∧ wr.ownsRow w2.heap.size 35 6 (.slice (some ⟨w2.heap.size, 0, none⟩) n n) n xs ∧ Below w2.heap.size w2 wr ∧ w2.heap.size < wr.heap.size ∧ Hid (Upto xs ss k)) (fun i _ => n - (intOf i).toNat)
    case atStart =>
      refine ⟨0, _, Nat.zero_le _, rfl, hown, B2, ?_, fun i h h' => absurd h' (by omega)⟩
      exact (hown.lt w2.heap.size rfl).2
    case round =>
      clear hown B2
      obtain ⟨k, xs, hk, rfl, hown, hb, hg, HU⟩ := hrel
      have hsz := hb.size
      have hsl := T.len
      have hxl := hown.1
      by_cases hlt : k < n
      · obtain ⟨b0, o0, had, hc0⟩ := T.cells (by omega)
        obtain rfl : ad = ⟨b0, o0, none⟩ := by simpa using had
        have hkl : k < ss.length := by omega
        have e0 := hc0 k hkl
        have t0 := cell_lt e0
        simp only at t0
        have d0 : wr.cell? ⟨b0, o0 + k, none⟩ = some (.string ss[k]) := (hb.cell (p := ⟨b0, o0 + k, none⟩) t0).trans e0
        obtain ⟨v0, g0⟩ : ∃ v, wr.cell? ⟨w2.heap.size, k * 6, none⟩ = some v := ⟨_, (hown.cellAt (k * 6) (by omega)).trans (List.getElem?_eq_getElem (by omega))⟩
        obtain ⟨v1, g1⟩ : ∃ v, wr.cell? ⟨w2.heap.size, k * 6 + 1, none⟩ = some v := ⟨_, (hown.cellAt (k * 6 + 1) (by omega)).trans (List.getElem?_eq_getElem (by omega))⟩
        obtain ⟨v2, g2⟩ : ∃ v, wr.cell? ⟨w2.heap.size, k * 6 + 2, none⟩ = some v := ⟨_, (hown.cellAt (k * 6 + 2) (by omega)).trans (List.getElem?_eq_getElem (by omega))⟩
        obtain ⟨v3, g3⟩ : ∃ v, wr.cell? ⟨w2.heap.size, k * 6 + 3, none⟩ = some v := ⟨_, (hown.cellAt (k * 6 + 3) (by omega)).trans (List.getElem?_eq_getElem (by omega))⟩
        obtain ⟨v4, g4⟩ : ∃ v, wr.cell? ⟨w2.heap.size, k * 6 + 4, none⟩ = some v := ⟨_, (hown.cellAt (k * 6 + 4) (by omega)).trans (List.getElem?_eq_getElem (by omega))⟩
        obtain ⟨v5, g5⟩ : ∃ v, wr.cell? ⟨w2.heap.size, k * 6 + 5, none⟩ = some v := ⟨_, (hown.cellAt (k * 6 + 5) (by omega)).trans (List.getElem?_eq_getElem (by omega))⟩
        have f0 := hown.frozenAt (k * 6)
        have f1 := hown.frozenAt (k * 6 + 1)
        have f2 := hown.frozenAt (k * 6 + 2)
        have f3 := hown.frozenAt (k * 6 + 3)
        have f4 := hown.frozenAt (k * 6 + 4)
        have f5 := hown.frozenAt (k * 6 + 5)
        have i1 : (0 : Int) ≤ (k : Int) := Int.natCast_nonneg _
        have i2 : (k : Int) < (n : Int) := by omega
        have hk4 : k ≤ 4096 := by omega
        go_wp2_with fail
        go_region_held3 (fun w' => w'.cell? ⟨b0, o0 + k, none⟩ = some (.string ss[k]))
          (first
            | go_keep
            | (rw [hB3.cell (p := ⟨b0, o0 + k, none⟩) (by simp; omega)]; assumption)
            | (exact (six_other (by simp; omega)).trans (by assumption)))
          (first | (go_at_call 13; refine (itoa k hk4 _).mono ?_; rintro e w4 ⟨rfl, hB3⟩; have G0 := (hB3.cell (p := ⟨w2.heap.size, k * 6, none⟩) (by simp; omega)).trans g0; have G1 := (hB3.cell (p := ⟨w2.heap.size, k * 6 + 1, none⟩) (by simp; omega)).trans g1; have G2 := (hB3.cell (p := ⟨w2.heap.size, k * 6 + 2, none⟩) (by simp; omega)).trans g2; have G3 := (hB3.cell (p := ⟨w2.heap.size, k * 6 + 3, none⟩) (by simp; omega)).trans g3; have G4 := (hB3.cell (p := ⟨w2.heap.size, k * 6 + 4, none⟩) (by simp; omega)).trans g4; have G5 := (hB3.cell (p := ⟨w2.heap.size, k * 6 + 5, none⟩) (by simp; omega)).trans g5; have F0 := (hB3.frozen (p := ⟨w2.heap.size, k * 6, none⟩) (by simp; omega)).trans f0; have F1 := (hB3.frozen (p := ⟨w2.heap.size, k * 6 + 1, none⟩) (by simp; omega)).trans f1; have F2 := (hB3.frozen (p := ⟨w2.heap.size, k * 6 + 2, none⟩) (by simp; omega)).trans f2; have F3 := (hB3.frozen (p := ⟨w2.heap.size, k * 6 + 3, none⟩) (by simp; omega)).trans f3; have F4 := (hB3.frozen (p := ⟨w2.heap.size, k * 6 + 4, none⟩) (by simp; omega)).trans f4; have F5 := (hB3.frozen (p := ⟨w2.heap.size, k * 6 + 5, none⟩) (by simp; omega)).trans f5))
        have ho4 := six_owned (owns_below (w := wr.drew) hown hB3) (k * 6) (k * 6 + 1) (k * 6 + 2) (k * 6 + 3) (k * 6 + 4) (k * 6 + 5) (.string ss[k]) (.string ⟨#[]⟩) (.string ⟨#[]⟩) (.string ⟨#[]⟩) (.string ⟨(dec k).toArray⟩) (.slice none 0 0)
        have hU4 := upto_step hkl (by omega) HU.out
        have hsz4 := hB3.size
        have hb4 := six_below (hb.drew.trans (hB3.mono (by simp; omega))) (b := w2.heap.size) (Nat.le_refl _) (k * 6) (k * 6 + 1) (k * 6 + 2) (k * 6 + 3) (k * 6 + 4) (k * 6 + 5) (.string ss[k]) (.string ⟨#[]⟩) (.string ⟨#[]⟩) (.string ⟨#[]⟩) (.string ⟨(dec k).toArray⟩) (.slice none 0 0)
        go_wp2
        go_roundw
        case rel => exact ⟨k + 1, _, by omega, by go_num, ho4, hb4, by show _ < (six w4 _ _ _ _ _ _ _ _ _ _ _ _ _).heap.size; rw [six_size]; simp at hsz4; omega, hU4⟩
        case measure => simp [intOf]; omega
      · obtain rfl : k = n := by omega
        have I := imps_of hown hsl HU.out
        have T2 := T.below hb
        clear hown HU hxl
        go_wp2_with fail
        refine (import_is _ k k ss path _ (I.below ((Below.refl _ wr).alloc (Nat.le_refl _) _)) hn').mono ?_
        rintro e w5 ⟨HX, B5⟩
        have B6 : Below wr.heap.size wr w5 := ((Below.refl _ wr).alloc (Nat.le_refl _) _).trans (B5.mono (by simp))
        have T5 := T2.below B6
        have BW : Below w1.heap.size w1 w5 := B1.trans ((hb.trans (B6.mono hsz)).mono B1.size)
        clear B5 B6 T2 T S B1 hb
        rcases HX with ⟨j, hj, HE, HM, rfl⟩ | ⟨HN, rfl⟩
        · have HEq : Hid (ss[j].toList = path.toList) := HE
          have he1 : (ss[j].toList == path.toList) = true := by simpa using HE
          clear HE
          obtain ⟨X, hX⟩ : ∃ X : Array Value, X = #[.string ss[j], .string ⟨#[]⟩, .string ⟨#[]⟩, .string ⟨#[]⟩, .string ⟨(dec j).toArray⟩, .slice none 0 0] := ⟨_, rfl⟩
          have C0 : (w5.alloc (.cells X 35)).cell? ⟨w5.heap.size, 0, none⟩ = some (.string ss[j]) := by rw [World.cell?_alloc_at _ _ _ _ rfl, hX]; rfl
          have C4 : (w5.alloc (.cells X 35)).cell? ⟨w5.heap.size, 4, none⟩ = some (.string ⟨(dec j).toArray⟩) := by rw [World.cell?_alloc_at _ _ _ _ rfl, hX]; rfl
          have T6 := T5.below ((Below.refl _ w5).alloc (Nat.le_refl _) (.cells X 35))
          have BX := BW.alloc BW.size (.cells X 35)
          have hwW : w5.heap.size < (w5.alloc (.cells X 35)).heap.size := by simp
          clear T5 BW
          go_wp2
          rw [← hX]
          generalize w5.alloc (.cells X 35) = W at C0 C4 T6 BX hwW ⊢
          clear hX
          go_loop [10, 11] (fun e i => ∃ q : Nat, q ≤ k ∧ i = .int .i64 q ∧ e = .bool (decide (j < q))) (fun _ i => k - (intOf i).toNat)
          case atStart => exact ⟨0, Nat.zero_le _, rfl, by simp⟩
          case round =>
            obtain ⟨q, hq, rfl, rfl⟩ := hrel
            by_cases hlq : q < k
            · obtain ⟨b0, o0, had, hc0⟩ := T6.cells (by omega)
              obtain rfl : ad = ⟨b0, o0, none⟩ := by simpa using had
              have hql : q < ss.length := by omega
              have d0 := hc0 q hql
              clear hc0 had
              have i1 : (0 : Int) ≤ (q : Int) := Int.natCast_nonneg _
              have i2 : (q : Int) < (k : Int) := by omega
              by_cases he : ss[q].toList = path.toList
              · have hjq : j ≤ q := by
                  rcases Nat.lt_or_ge q j with h | h
                  · exact absurd he (HM.out q hql h)
                  · exact h
                have he' : (ss[q].toList == path.toList) = true := by simpa using he
                clear he
                go_wp2
                go_round
                case rel => exact ⟨q + 1, by omega, by go_num, by rw [decide_eq_true (by omega)]⟩
                case measure => simp [intOf]; omega
              · have hjq : q ≠ j := by
                  rintro rfl
                  exact he HEq.out
                have he' : (ss[q].toList == path.toList) = false := by simpa using he
                have hdd : decide (j < q) = decide (j < q + 1) := by rw [decide_eq_decide]; omega
                clear he
                go_wp2
                go_round
                case rel => exact ⟨q + 1, by omega, by go_num, by rw [← hdd]⟩
                case measure => simp [intOf]; omega
            · have hjq : decide (j < q) = true := decide_eq_true (by omega)
              rw [hjq]
              have hlq' : ¬ (q : Int) < (k : Int) := by omega
              go_wp2
              have hjk : j < k := by omega
              clear hlq hlq' hjq hq
              go_loopw [13] (fun i wr => ∃ q : Nat, q ≤ j ∧ i = .int .i64 q ∧ Below W.heap.size W wr) (fun i _ => k - (intOf i).toNat)
              case atStart => exact ⟨0, Nat.zero_le _, rfl, Below.refl _ _⟩
              case round =>
                obtain ⟨q2, hq2, rfl, hb2⟩ := hrel
                have hs2 := hb2.size
                have hq4 : q2 ≤ 4096 := by omega
                have i3 : (q2 : Int) < (k : Int) := by omega
                have D4 : wr.cell? ⟨w5.heap.size, 4, none⟩ = some (.string ⟨(dec j).toArray⟩) := (hb2.cell (p := ⟨w5.heap.size, 4, none⟩) hwW).trans C4
                by_cases hqj : q2 = j
                · subst hqj
                  go_wp2_with fail
                  go_region_held3 (fun w' => w'.cell? ⟨w5.heap.size, 4, none⟩ = some (.string ⟨(dec q2).toArray⟩))
                    (first
                      | go_keep
                      | (rw [hB8.cell (p := ⟨w5.heap.size, 4, none⟩) (by simp; omega)]; assumption))
                    (first | (go_at_call 13; refine (itoa q2 hq4 _).mono ?_; rintro e w8 ⟨rfl, hB8⟩))
                  have B8 : Below W.heap.size W w8 := hb2.drew.trans (hB8.mono (by simp; omega))
                  have T8 := T6.below B8
                  have BY := BX.trans (B8.mono BX.size)
                  have i4 : ¬ (q2 : Int) < 0 := by omega
                  have he2 : Hid (∀ i (h : i < ss.length), i < q2 → (ss[i].toList == path.toList) = false) := fun i h h' => by simpa using HM.out i h h'
                  go_wp2
                  go_loop [14] (fun i => ∃ q : Nat, q ≤ q2 ∧ i = .int .i64 q) (fun i => q2 - (intOf i).toNat)
                  case atStart => exact ⟨0, Nat.zero_le _, rfl⟩
                  case round =>
                    obtain ⟨q3, hq3, rfl⟩ := hrel
                    obtain ⟨b0, o0, had, hc0⟩ := T8.cells (by omega)
                    obtain rfl : ad = ⟨b0, o0, none⟩ := by simpa using had
                    have hql : q3 < ss.length := by omega
                    have d0 := hc0 q3 hql
                    have d1 := hc0 q2 hj
                    clear hc0 had
                    have j1 : (0 : Int) ≤ (q3 : Int) := Int.natCast_nonneg _
                    have j2 : (q3 : Int) < (k : Int) := by omega
                    have j3 : (0 : Int) ≤ (q2 : Int) := Int.natCast_nonneg _
                    by_cases h3 : q3 < q2
                    · have he3 := he2.out q3 hql h3
                      go_wp2
                      go_round
                      case rel => exact ⟨q3 + 1, by omega, by go_num⟩
                      case measure => simp [intOf]; omega
                    · have h3' : ¬ (q3 : Int) < (q2 : Int) := by omega
                      go_wp2
                      go_ret
                      exact ⟨rfl, BY⟩
                · have hne : dec q2 ≠ dec j := fun e => hqj (dec_inj _ _ hq4 (by omega) e)
                  have hne' : ((⟨(dec q2).toArray⟩ : ByteArray).toList == (⟨(dec j).toArray⟩ : ByteArray).toList) = false := by
                    simpa [ByteArray.toList_eq] using hne
                  have hne2 : (dec q2 == dec j) = false := by simpa using hne
                  go_wp2_with fail
                  go_region_held3 (fun w' => w'.cell? ⟨w5.heap.size, 4, none⟩ = some (.string ⟨(dec j).toArray⟩))
                    (first
                      | go_keep
                      | (rw [hB8.cell (p := ⟨w5.heap.size, 4, none⟩) (by simp; omega)]; assumption))
                    (first | (go_at_call 13; refine (itoa q2 hq4 _).mono ?_; rintro e w8 ⟨rfl, hB8⟩))
                  have B8 : Below W.heap.size W w8 := hb2.drew.trans (hB8.mono (by simp; omega))
                  go_wp2
                  go_roundw
                  case rel => exact ⟨q2 + 1, by omega, by go_num, B8⟩
                  case measure => simp [intOf]; omega
        · have hnil32 := fun w => Lib.run_eql_slice_nil (P := Try.prog) w 32 35 none 0 0 0 0 Try.underlying32
          obtain ⟨X, hX⟩ : ∃ X : Array Value, X = #[.string ⟨#[]⟩, .string ⟨#[]⟩, .string ⟨#[]⟩, .string ⟨#[]⟩, .string ⟨#[]⟩, .slice none 0 0] := ⟨_, rfl⟩
          have C0 : (w5.alloc (.cells X 35)).cell? ⟨w5.heap.size, 0, none⟩ = some (.string ⟨#[]⟩) := by rw [World.cell?_alloc_at _ _ _ _ rfl, hX]; rfl
          have C1 : (w5.alloc (.cells X 35)).cell? ⟨w5.heap.size, 1, none⟩ = some (.string ⟨#[]⟩) := by rw [World.cell?_alloc_at _ _ _ _ rfl, hX]; rfl
          have C2 : (w5.alloc (.cells X 35)).cell? ⟨w5.heap.size, 2, none⟩ = some (.string ⟨#[]⟩) := by rw [World.cell?_alloc_at _ _ _ _ rfl, hX]; rfl
          have C3 : (w5.alloc (.cells X 35)).cell? ⟨w5.heap.size, 3, none⟩ = some (.string ⟨#[]⟩) := by rw [World.cell?_alloc_at _ _ _ _ rfl, hX]; rfl
          have C4 : (w5.alloc (.cells X 35)).cell? ⟨w5.heap.size, 4, none⟩ = some (.string ⟨#[]⟩) := by rw [World.cell?_alloc_at _ _ _ _ rfl, hX]; rfl
          have C5 : (w5.alloc (.cells X 35)).cell? ⟨w5.heap.size, 5, none⟩ = some (.slice none 0 0) := by rw [World.cell?_alloc_at _ _ _ _ rfl, hX]; rfl
          have T6 := T5.below ((Below.refl _ w5).alloc (Nat.le_refl _) (.cells X 35))
          have BX := BW.alloc BW.size (.cells X 35)
          clear T5 BW
          go_wp2
          rw [← hX]
          generalize w5.alloc (.cells X 35) = W at C0 C1 C2 C3 C4 C5 T6 BX ⊢
          clear hX
          go_loop [10, 11] (fun e i => ∃ q : Nat, q ≤ k ∧ i = .int .i64 q ∧ e = .bool false) (fun _ i => k - (intOf i).toNat)
          case atStart => exact ⟨0, Nat.zero_le _, rfl, rfl⟩
          case round =>
            obtain ⟨q, hq, rfl, rfl⟩ := hrel
            by_cases hlq : q < k
            · obtain ⟨b0, o0, had, hc0⟩ := T6.cells (by omega)
              obtain rfl : ad = ⟨b0, o0, none⟩ := by simpa using had
              have hql : q < ss.length := by omega
              have d0 := hc0 q hql
              clear hc0 had
              have i1 : (0 : Int) ≤ (q : Int) := Int.natCast_nonneg _
              have i2 : (q : Int) < (k : Int) := by omega
              have he' : (ss[q].toList == path.toList) = false := by simpa using HN.out q hql
              go_wp2
              go_round
              case rel => exact ⟨q + 1, by omega, by go_num, rfl⟩
              case measure => simp [intOf]; omega
            · have hlq' : ¬ (q : Int) < (k : Int) := by omega
              go_wp2
              go_ret
              exact ⟨rfl, BX⟩

end Go.Proofs.Qxb6002630a.Form
