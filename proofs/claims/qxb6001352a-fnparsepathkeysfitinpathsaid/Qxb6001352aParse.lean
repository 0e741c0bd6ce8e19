import Derived.Test.Qxb6001352aBld
import Derived.Test.Qxb6001352aPlain
import Derived.WalkKit
namespace Go.Proofs.Qxb6001352a.Parse
open Go.Shelf Go.RowKit Go.Proofs.Qxb6001352a.Bld

def str (l : List UInt8) : Value := .string ⟨l.toArray⟩

theorem infoStr : (Try.prog.info? 9).map (fun i => (i.zero, i.size, i.bytes)) = some (some (.string ⟨#[]⟩), 1, 16) := by kernel_rfl

theorem owns_others {w w' : World} {B base b : Nat} {v : Value} {n : Nat} {xs bs : List Value} (hB : Lib.IsBuilderF 50 5 B b bs w) (h : w.ownsRow base 9 1 v n xs) (k : Lib.OthersKept 5 (some b) w w') : w'.ownsRow base 9 1 v n xs := by
  have hb : ∃ c, w.heap[b]? = some (.cells c 50 (0, 0)) := by
    rcases hB with ⟨_, v, hb, _⟩ | ⟨_, v, hb, _⟩
    · exact ⟨_, hb⟩
    · exact ⟨_, hb⟩
  obtain ⟨c, hb⟩ := hb
  refine ⟨h.1, ?_⟩
  rcases h.2 with hn | ⟨g, cap, cur, hv, hg, hh, r⟩
  · exact .inl hn
  · refine .inr ⟨g, cap, cur, hv, hg, k g _ hh ?_ ?_, r⟩
    · intro e
      simp only [Option.some.injEq] at e
      subst e
      rw [hh] at hb
      simp at hb
    · intro c fz e
      simp at e

theorem at_grown {w w' : World} {B b : Nat} {p v : Value} {bs : List Value} (h : Lib.BuilderAtF 50 5 B b p bs w) (hg : w.grownBy w' v.ownBlock) (hv : ∀ g, v.ownBlock = some g → ∃ c, w.heap[g]? = some (.cells c 9 (0, 0))) : Lib.BuilderAtF 50 5 B b p bs w' := by
  have key : ∀ (k : Nat) (c : Array Value) (t : TypeId) (fz : Nat × Nat), w.heap[k]? = some (Obj.cells c t fz) → t ≠ 9 → w'.heap[k]? = some (Obj.cells c t fz) := by
    intro k c t fz hk ht
    rw [hg.block k (Array.getElem?_eq_some_iff.1 hk).1 ?_]
    · exact hk
    · intro e
      obtain ⟨c', hc'⟩ := hv k e.symm
      rw [hk] at hc'
      simp at hc'
      exact ht hc'.2.1
  obtain ⟨hB, u, hb, hown, hne⟩ := h
  refine ⟨hB, u, key _ _ _ _ hb (by decide), ⟨hown.1, ?_⟩, hne⟩
  rcases hown.2 with hn | ⟨g, cap, cur, fz, hv, hbg, hgg, rest⟩
  · exact .inl hn
  · exact .inr ⟨g, cap, cur, fz, hv, hbg, key _ _ _ _ hgg (by decide), rest⟩

theorem is_grown {w w' : World} {B b : Nat} {v : Value} {bs : List Value} (h : Lib.IsBuilderF 50 5 B b bs w) (hg : w.grownBy w' v.ownBlock) (hv : ∀ g, v.ownBlock = some g → ∃ c, w.heap[g]? = some (.cells c 9 (0, 0))) : Lib.IsBuilderF 50 5 B b bs w' := by
  rcases h with h | h
  · exact .inl (at_grown h hg hv)
  · exact .inr (at_grown h hg hv)

theorem owns_kind {w : World} {base : Nat} {v : Value} {n : Nat} {xs : List Value} (h : w.ownsRow base 9 1 v n xs) : ∀ g, v.ownBlock = some g → ∃ c, w.heap[g]? = some (.cells c 9 (0, 0)) := by
  intro g hg
  rcases h.2 with ⟨rfl, _⟩ | ⟨g', cap, cur, rfl, _, hgg, _⟩
  · simp [Value.ownBlock] at hg
  · simp [Value.ownBlock] at hg
    subst hg
    exact ⟨cur, hgg⟩

theorem is_alloc {w : World} {B b : Nat} {bs : List Value} (h : Lib.IsBuilderF 50 5 B b bs w) (o : Obj) : Lib.IsBuilderF 50 5 B b bs (w.alloc o) := by
  rcases h with h | h
  · exact .inl (h.alloc o)
  · exact .inr (h.alloc o)

open Go.Proofs.Qxb6001352a.Plain

set_option maxHeartbeats 4000000 in
set_option maxRecDepth 1000000 in
theorem parse_walk (s : ByteArray) (w : World) (hs : s.size ≤ 4194304) :
    Calls Try.prog 15 #[.string s] w fun e w' => ∃ v, e = .returned v ∧ w'.ownsRow w.heap.size 9 1 v (ppAt s 0 []).length ((ppAt s 0 []).map str) ∧ Below w.heap.size w w' := by
  obtain ⟨i0, hi, hz0, hz1, hz2⟩ := info_parts infoStr
  go_enter Try.func15, Try.ntmps15
  go_wp2
  go_loopw [3, 5] (fun v i wr => ∃ (k : Nat) (K : List (List UInt8)) (cur : List UInt8), k ≤ s.size ∧ i = .int .i64 k ∧ wr.ownsRow w.heap.size 9 1 v K.length (K.map str) ∧ Lib.IsBuilderF 50 5 w.heap.size w.heap.size (Lib.byteCells cur) wr ∧ Below w.heap.size w wr ∧ K ++ ppAt s k cur = ppAt s 0 [] ∧ K.length ≤ k ∧ cur.length ≤ k) (fun _ i _ => s.size - (intOf i).toNat)
  case atStart =>
    exact ⟨0, [], [], Nat.zero_le _, rfl, World.ownsRow_nil _ _ _ _, Lib.IsBuilderF.of (Lib.fresh_isBuilder 50 5 w), (Below.refl _ w).alloc (Nat.le_refl _) _, rfl, Nat.le_refl _, Nat.le_refl _⟩
  case round =>
    obtain ⟨k, K, cur, hk, rfl, hown, hI, hbw, hacc, hKl, hcl⟩ := hrel
    have hsz := hbw.size
    by_cases hlt : k < s.size
    · by_cases h46 : ((s[k].toNat : Nat) : Int) = 46
      · have HA : Hid (ppAt s k cur = cur :: ppAt s (k + 1) []) := ppAt_dot s k cur hlt h46
        have HC : Hid (K ++ ppAt s k cur = ppAt s 0 []) := hacc
        clear hacc
        go_wp2_with (go_at_call 34; refine (Try.Builder_String_any_k w.heap.size w.heap.size cur _ hI (by omega)).mono ?_)
        rintro e W1 ⟨rfl, h1, b1, k1⟩
        have hown1 := owns_others hI hown k1
        have hsz1 := b1.size
        go_wp2_with (at_builtin; refine wpList_append_own _ rfl _ _ 22 rfl w.heap.size 9 i0 (.string ⟨#[]⟩) 1 16 Try.underlying22 hi hz0 hz1 hz2 rfl (by decide) _ _ _ rfl (hown1.alloc _) ⟨W1.heap.size, 0, none⟩ 1 1 [str cur] rfl rfl ?c1 ?c2 ?c3 ?c4 ?c5 ?_)
        case c1 =>
          intro j u hj
          match j, hj with
          | 0, hj => simp at hj; subst hj; simp [Addr.add, str]
        case c2 => intro u hu; simp at hu; subst hu; rfl
        case c3 => unfold maxLen; omega
        case c4 => omega
        case c5 => simp; omega
        intro v' w2 hown' hgrow _
        have hI2 := is_grown (is_alloc h1 _) hgrow (owns_kind (hown1.alloc _))
        have hB2 : Below w.heap.size w w2 := ((hbw.trans b1).alloc (by omega) _).grown hgrow (by simp; omega) (fun k hk => (hown1.lt k hk).1)
        clear hgrow hown1
        go_wp2_with (go_at_call 35; refine (reset_k w.heap.size w.heap.size _ _ hI2).mono ?_)
        rintro e W3 ⟨rfl, h3, b3, k3⟩
        have hown3 := owns_others hI2 hown' k3
        go_wp2
        go_roundw
        case rel =>
          refine ⟨k + 1, K ++ [cur], [], by omega, by go_num, by simpa using hown3, h3, hB2.trans b3, ?_, by simp; omega, by simp⟩
          rw [← HC.out, HA.out]; simp
        case measure => simp [intOf]; omega
      · by_cases hesc : ((s[k].toNat : Nat) : Int) = 92 ∧ ∃ h' : k + 1 < s.size, (((s[k + 1]'h').toNat : Nat) : Int) = 46
        · obtain ⟨h92, hlt1, h46'⟩ := hesc
          have HA : Hid (ppAt s k cur = ppAt s (k + 2) (cur ++ [46])) := ppAt_esc s k cur hlt hlt1 h92 h46'
          have HC : Hid (K ++ ppAt s k cur = ppAt s 0 []) := hacc
          clear hacc
          have hlt1' : (k : Int) + 1 < (s.size : Int) := by omega
          go_wp2_with (go_at_call 33; refine (writeByte_k w.heap.size w.heap.size _ 46 _ hI (by rw [Lib.byteCells_length]; omega) (by omega)).mono ?_)
          rintro e W1 ⟨rfl, h1, b1, k1⟩
          have hown1 := owns_others hI hown k1
          go_wp2
          go_roundw
          case rel =>
            refine ⟨k + 2, K, cur ++ [46], by omega, by go_num, hown1, ?_, hbw.trans b1, ?_, by omega, by simp; omega⟩
            · rw [Lib.byteCells_append]; exact Or.inr h1
            · rw [← HC.out, HA.out]
          case measure => simp [intOf]; omega
        · have HA : Hid (ppAt s k cur = ppAt s (k + 1) (cur ++ [s[k]])) := ppAt_other s k cur hlt h46 hesc
          have HC : Hid (K ++ ppAt s k cur = ppAt s 0 []) := hacc
          clear hacc
          by_cases h92 : ((s[k].toNat : Nat) : Int) = 92
          · by_cases hlt1 : k + 1 < s.size
            · have h46' : ¬ ((s[k + 1].toNat : Nat) : Int) = 46 := fun e => hesc ⟨h92, hlt1, e⟩
              clear hesc
              have hlt1' : (k : Int) + 1 < (s.size : Int) := by omega
              have b2 : (((s[k + 1].toNat : Nat) : Int) == 46) = false := by simpa using h46'
              have H92 : Hid (((s[k].toNat : Nat) : Int) = 92) := h92
              have b3 : (((s[k].toNat : Nat) : Int) == 92) = true := by simpa using h92
              have b4 : (((s[k].toNat : Nat) : Int) == 46) = false := by simpa using h46
              clear h92
              go_wp2_with (go_at_call 33; refine (writeByte_k w.heap.size w.heap.size _ _ _ hI (by rw [Lib.byteCells_length]; omega) (by omega)).mono ?_)
              rintro e W1 ⟨rfl, h1, b1, k1⟩
              have hown1 := owns_others hI hown k1
              go_wp2
              go_roundw
              case rel =>
                refine ⟨k + 1, K, cur ++ [s[k]], by omega, by go_num, hown1, ?_, hbw.trans b1, ?_, by omega, by simp; omega⟩
                · rw [Lib.byteCells_append]; exact Or.inr h1
                · rw [← HC.out, HA.out]
              case measure => simp [intOf]; omega
            · clear hesc
              have hlt1' : ¬ (k : Int) + 1 < (s.size : Int) := by omega
              have H92 : Hid (((s[k].toNat : Nat) : Int) = 92) := h92
              have b3 : (((s[k].toNat : Nat) : Int) == 92) = true := by simpa using h92
              have b4 : (((s[k].toNat : Nat) : Int) == 46) = false := by simpa using h46
              clear h92
              go_wp2_with (go_at_call 33; refine (writeByte_k w.heap.size w.heap.size _ _ _ hI (by rw [Lib.byteCells_length]; omega) (by omega)).mono ?_)
              rintro e W1 rfl h1 b1 k1
              have hown1 := owns_others hI hown k1
              go_wp2
              go_roundw
              case rel =>
                refine ⟨k + 1, K, cur ++ [s[k]], by omega, by go_num, hown1, ?_, hbw.trans b1, ?_, by omega, by simp; omega⟩
                · rw [Lib.byteCells_append]; exact Or.inr h1
                · rw [← HC.out, HA.out]
              case measure => simp [intOf]; omega
          · clear hesc
            have b3 : (((s[k].toNat : Nat) : Int) == 92) = false := by simpa using h92
            have b4 : (((s[k].toNat : Nat) : Int) == 46) = false := by simpa using h46
            go_wp2_with (go_at_call 33; refine (writeByte_k w.heap.size w.heap.size _ _ _ hI (by rw [Lib.byteCells_length]; omega) (by omega)).mono ?_)
            rintro e W1 ⟨rfl, h1, b1, k1⟩
            have hown1 := owns_others hI hown k1
            go_wp2
            go_roundw
            case rel =>
              refine ⟨k + 1, K, cur ++ [s[k]], by omega, by go_num, hown1, ?_, hbw.trans b1, ?_, by omega, by simp; omega⟩
              · rw [Lib.byteCells_append]; exact Or.inr h1
              · rw [← HC.out, HA.out]
            case measure => simp [intOf]; omega
    · have HA : Hid (ppAt s k cur = [cur]) := ppAt_end s k cur hlt
      have HC : Hid (K ++ ppAt s k cur = ppAt s 0 []) := hacc
      clear hacc
      go_wp2_with (go_at_call 34; refine (Try.Builder_String_any_k w.heap.size w.heap.size cur _ hI (by omega)).mono ?_)
      rintro e W1 ⟨rfl, h1, b1, k1⟩
      have hown1 := owns_others hI hown k1
      have hsz1 := b1.size
      go_wp2_with (at_builtin; refine wpList_append_own _ rfl _ _ 22 rfl w.heap.size 9 i0 (.string ⟨#[]⟩) 1 16 Try.underlying22 hi hz0 hz1 hz2 rfl (by decide) _ _ _ rfl (hown1.alloc _) ⟨W1.heap.size, 0, none⟩ 1 1 [str cur] rfl rfl ?c1 ?c2 ?c3 ?c4 ?c5 ?_)
      case c1 =>
        intro j u hj
        match j, hj with
        | 0, hj => simp at hj; subst hj; simp [Addr.add, str]
      case c2 => intro u hu; simp at hu; subst hu; rfl
      case c3 => unfold maxLen; omega
      case c4 => omega
      case c5 => simp; omega
      intro v' w2 hown' hgrow _
      have hB2 : Below w.heap.size w w2 := ((hbw.trans b1).alloc (by omega) _).grown hgrow (by simp; omega) (fun k hk => (hown1.lt k hk).1)
      clear hgrow hown1
      go_wp2
      go_ret
      refine ⟨_, rfl, ?_, hB2⟩
      rw [← HC.out, HA.out]
      simpa using hown'

end Go.Proofs.Qxb6001352a.Parse
