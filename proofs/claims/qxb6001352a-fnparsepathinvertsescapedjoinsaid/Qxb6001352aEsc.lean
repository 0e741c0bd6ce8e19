import Derived.Test.Qxb6001352aStrs
import Derived.Test.Qxb6001352aPlainEsc
import Derived.WalkKit
import Derived.WalkSpells
namespace Go.Proofs.Qxb6001352a.Esc
open Go.RowKit Go.Proofs.Qxb6001352a.Strs Go.Proofs.Qxb6001352a.Plain

theorem infoByte : (Try.prog.info? 5).map (fun i => (i.zero, i.size, i.bytes)) = some (some (.int .u8 0), 1, 1) := by kernel_rfl

def cellsOf (l : List UInt8) : List Value := l.map fun b => Value.int .u8 b.toNat

def Buf (w : World) (B : Nat) (v : Value) (l : List UInt8) : Prop := w.ownsRow B 5 1 v l.length (cellsOf l)

theorem Buf.push {w : World} {B : Nat} {v : Value} {l : List UInt8} {c : UInt8} {n : Int} (hn : n = (c.toNat : Int)) (h : w.ownsRow B 5 1 v (l.length + 1) (cellsOf l ++ [.int .u8 n])) : Buf w B v (l ++ [c]) := by
  subst hn
  unfold Buf
  simpa [cellsOf] using h

theorem Buf.asText {w : World} {B : Nat} {v : Value} {l : List UInt8} (h : Buf w B v l) : (convert 48 9 v).run Try.prog w = .ok (.string ⟨l.toArray⟩) w := by
  have h' : w.ownsRow B 5 1 v l.length (cellsOf l) := h
  rcases h'.2 with ⟨rfl, h0⟩ | ⟨g, cap, cur, rfl, _⟩
  · obtain rfl : l = [] := List.length_eq_zero_iff.1 h0
    exact run_convert_bytes_nil w 48 5 Try.underlying48 Try.underlying5 0 0 9 Try.underlying9
  · refine run_convert_bytes_back w 48 9 5 ⟨g, 0, none⟩ cap l Try.underlying48 Try.underlying5 Try.underlying9 fun j hj => ?_
    have ea : (⟨g, 0, none⟩ : Addr).add j = ⟨g, j, none⟩ := by unfold Addr.add; split <;> simp_all
    rw [ea, h'.cellAt j (by omega)]
    simp [cellsOf, List.getElem?_eq_getElem hj]

def bytesOf (ss : List ByteArray) : List (List UInt8) := ss.map fun s => s.data.toList

set_option maxHeartbeats 8000000 in
set_option maxRecDepth 100000 in
theorem escapeJoin (a : Option Addr) (n c : Nat) (ss : List ByteArray) (w : World) (S : StrsAt w a n c ss) (hn : n ≤ 1048576) (ht : total (bytesOf ss) ≤ 1048576) :
    Calls Try.prog 16 #[.slice a n c] w fun e w' => e = .returned (.string ⟨(ej (bytesOf ss)).toArray⟩) ∧ Below w.heap.size w w' := by
  obtain ⟨i0, hi, hz0, hz1, hz2⟩ := info_parts infoByte
  have HT : Hid (total (bytesOf ss) ≤ 1048576) := ht
  clear ht
  go_enter Try.func16, Try.ntmps16
  go_wp2
  go_loopw [3, 4] (fun v i wr => ∃ k : Nat, k ≤ n ∧ i = .int .i64 k ∧ Buf wr w.heap.size v (ej ((bytesOf ss).take k)) ∧ Below w.heap.size w wr) (fun _ i _ => n - (intOf i).toNat)
  case atStart => exact ⟨0, Nat.zero_le _, rfl, by unfold Buf; simpa [ej, cellsOf] using World.ownsRow_nil _ _ _ _, Below.refl _ _⟩
  case round =>
    obtain ⟨k, hk, rfl, hB, hb⟩ := hrel
    have hsz := hb.size
    have hsl := S.len
    by_cases hlt : k < n
    · obtain ⟨b0, o0, rfl, hc0⟩ := S.cells (by omega)
      have l0 : k < ss.length := by omega
      have e0 := hc0 k l0
      have t0 := cell_lt e0
      have kb : k < (bytesOf ss).length := by simp [bytesOf]; omega
      have d0 : wr.cell? ⟨b0, o0 + k, none⟩ = some (.string ss[k]) := (hb.cell (p := ⟨b0, o0 + k, none⟩) t0).trans e0
      have HE := ej_take (bytesOf ss) k kb
      have q1 := tot_step (bytesOf ss) k kb
      have q2 := tot_le (bytesOf ss) (k + 1)
      have q3 := ej_len ((bytesOf ss).take k)
      have q4 : ((bytesOf ss).take k).length = k := by simp; omega
      have ek : (bytesOf ss)[k] = ss[k].data.toList := by simp [bytesOf]
      rw [ek] at HE q1
      have hl : (ej ((bytesOf ss).take k)).length + 2 * ss[k].size ≤ 3145728 + k := by
        have := HT.out
        have e : ss[k].data.toList.length = ss[k].size := by simp
        omega
      clear q1 q2 q3 q4 ek hc0
      generalize ss[k] = s at *
      have HE' : Hid (ej ((bytesOf ss).take (k + 1)) = ej ((bytesOf ss).take k) ++ (if k = 0 then [] else [46]) ++ esc s.data.toList) := HE
      clear HE
      generalize ej ((bytesOf ss).take k) = acc0 at *
      by_cases hk0 : k = 0
      · have hk0' : ¬ (0 : Int) < (k : Int) := by omega
        have HF : Hid (ej ((bytesOf ss).take (k + 1)) = acc0 ++ esc s.data.toList) := by rw [Hid, HE'.out, if_pos hk0, List.append_nil]
        clear hk0 HE'
        go_wp2
        go_loopw [3, 6] (fun v j wz => ∃ jj : Nat, jj ≤ s.size ∧ j = .int .i64 jj ∧ Buf wz w.heap.size v (acc0 ++ esc (s.data.toList.take jj)) ∧ Below w.heap.size w wz) (fun _ j _ => s.size - (intOf j).toNat)
        case atStart => exact ⟨0, Nat.zero_le _, rfl, by simpa [esc] using hB, hb⟩
        case round =>
          clear hB hb hsz
          obtain ⟨j, hj, rfl, hB, hb⟩ := hrel
          have hsz := hb.size
          have hel := esc_len (s.data.toList.take j)
          have hel2 : (s.data.toList.take j).length ≤ j := List.length_take_le _ _
          by_cases hjl : j < s.size
          · have HS : Hid (esc (s.data.toList.take (j + 1)) = esc (s.data.toList.take j) ++ esc1 s[j]) := esc_take s j hjl
            have hlen : (acc0 ++ esc (s.data.toList.take j)).length ≤ 3145732 + k := by rw [List.length_append]; omega
            have HX : Hid (acc0 ++ esc (s.data.toList.take (j + 1)) = acc0 ++ esc (s.data.toList.take j) ++ esc1 s[j]) := by rw [Hid, HS.out, List.append_assoc]
            clear HS hel hel2
            generalize acc0 ++ esc (s.data.toList.take j) = X at *
            have hO : wr.ownsRow w.heap.size 5 1 _ X.length (cellsOf X) := hB
            clear hB
            by_cases h46 : ((s[j].toNat : Nat) : Int) = 46
            · have HE1 : Hid (esc1 s[j] = [92, 46]) := by
                have : s[j] = 46 := UInt8.toNat_inj.1 (by have : (46 : UInt8).toNat = 46 := rfl; omega)
                rw [Hid, this]; rfl
              go_wp2_with (at_builtin; refine wpList_append_own _ rfl _ _ 48 rfl w.heap.size 5 i0 (.int .u8 0) 1 1 Try.underlying48 hi hz0 hz1 hz2 rfl (by decide) _ _ _ rfl (hO.alloc _) ⟨wr.heap.size, 0, none⟩ 1 1 [.int .u8 92] rfl rfl ?x1 ?x2 ?x3 ?x4 ?x5 ?_)
              case x1 =>
                intro j u hj
                match j, hj with
                | 0, hj => simp at hj; subst hj; simp [Addr.add]
              case x2 => intro u hu; simp at hu; subst hu; rfl
              case x3 => unfold maxLen; omega
              case x4 => omega
              case x5 => simp; omega
              intro v1 w1 hO1 hg1 _
              have hB1 : Buf w1 w.heap.size v1 (X ++ [92]) := Buf.push (c := 92) rfl (by simpa using hO1)
              have hb1 : Below w.heap.size w w1 := (hb.alloc (by omega) _).grown hg1 (by simp; omega) (fun k hk => (hO.lt k hk).1)
              have hO2 : w1.ownsRow w.heap.size 5 1 v1 (X ++ [92]).length (cellsOf (X ++ [92])) := hB1
              have hsz1 := hb1.size
              have hlen1 : (X ++ [92]).length ≤ 3145733 + k := by simp; omega
              clear hO hO1 hg1 hB1
              generalize hY : X ++ [92] = Y at *
              have HY : Hid (X ++ [92] = Y) := hY
              clear hY
              go_wp2_with (at_builtin; refine wpList_append_own _ rfl _ _ 48 rfl w.heap.size 5 i0 (.int .u8 0) 1 1 Try.underlying48 hi hz0 hz1 hz2 rfl (by decide) _ _ _ rfl (hO2.alloc _) ⟨w1.heap.size, 0, none⟩ 1 1 [.int .u8 46] rfl rfl ?y1 ?y2 ?y3 ?y4 ?y5 ?_)
              case y1 =>
                intro j u hj
                match j, hj with
                | 0, hj => simp at hj; subst hj; simp [Addr.add]
              case y2 => intro u hu; simp at hu; subst hu; rfl
              case y3 => unfold maxLen; omega
              case y4 => omega
              case y5 => simp; omega
              intro v2 w2 hO3 hg2 _
              have hB2 : Buf w2 w.heap.size v2 (Y ++ [46]) := Buf.push (c := 46) rfl (by simpa using hO3)
              have hb2 : Below w.heap.size w w2 := (hb1.alloc (by omega) _).grown hg2 (by simp; omega) (fun k hk => (hO2.lt k hk).1)
              clear hO2 hO3 hg2
              go_wp2
              go_roundw
              case rel => exact ⟨j + 1, by omega, by go_num, by rw [HX.out, HE1.out, show ([92, 46] : List UInt8) = [92] ++ [46] from rfl, ← List.append_assoc, HY.out]; exact hB2, hb2⟩
              case measure => simp [intOf]; omega
            · have b46 : (((s[j].toNat : Nat) : Int) == 46) = false := by simpa using h46
              have HE1 : Hid (esc1 s[j] = [s[j]]) := by
                have : s[j] ≠ 46 := fun e => h46 (by rw [e]; rfl)
                rw [Hid, esc1, if_neg this]
              go_wp2_with (at_builtin; refine wpList_append_own _ rfl _ _ 48 rfl w.heap.size 5 i0 (.int .u8 0) 1 1 Try.underlying48 hi hz0 hz1 hz2 rfl (by decide) _ _ _ rfl (hO.alloc _) ⟨wr.heap.size, 0, none⟩ 1 1 [.int .u8 (s[j].toNat : Int)] rfl rfl ?z1 ?z2 ?z3 ?z4 ?z5 ?_)
              case z1 =>
                intro j u hj
                match j, hj with
                | 0, hj => simp at hj; subst hj; simp [Addr.add]
              case z2 => intro u hu; simp at hu; subst hu; rfl
              case z3 => unfold maxLen; omega
              case z4 => omega
              case z5 => simp; omega
              intro v1 w1 hO1 hg1 _
              have hB1 : Buf w1 w.heap.size v1 (X ++ [s[j]]) := Buf.push (c := s[j]) rfl (by simpa using hO1)
              have hb1 : Below w.heap.size w w1 := (hb.alloc (by omega) _).grown hg1 (by simp; omega) (fun k hk => (hO.lt k hk).1)
              clear hO hO1 hg1
              go_wp2
              go_roundw
              case rel => exact ⟨j + 1, by omega, by go_num, by rw [HX.out, HE1.out]; exact hB1, hb1⟩
              case measure => simp [intOf]; omega
          · obtain rfl : j = s.size := by omega
            rw [List.take_of_length_le (by simp), ← HF.out] at hB
            go_wp2
            go_roundw
            case rel => exact ⟨k + 1, by omega, by go_num, hB, hb⟩
            case measure => simp [intOf]; omega
      · have hk0' : (0 : Int) < (k : Int) := by omega
        have HF : Hid (ej ((bytesOf ss).take (k + 1)) = (acc0 ++ [46]) ++ esc s.data.toList) := by rw [Hid, HE'.out, if_neg hk0]
        clear hk0 HE'
        have hO0 : wr.ownsRow w.heap.size 5 1 _ acc0.length (cellsOf acc0) := hB
        clear hB
        go_wp2_with (at_builtin; refine wpList_append_own _ rfl _ _ 48 rfl w.heap.size 5 i0 (.int .u8 0) 1 1 Try.underlying48 hi hz0 hz1 hz2 rfl (by decide) _ _ _ rfl (hO0.alloc _) ⟨wr.heap.size, 0, none⟩ 1 1 [.int .u8 46] rfl rfl ?d1 ?d2 ?d3 ?d4 ?d5 ?_)
        case d2 => rfl
        case d3 => unfold maxLen; omega
        case d4 => omega
        case d5 => omega
        intro v0 w0 hOd hgd _
        have hB : Buf w0 w.heap.size v0 (acc0 ++ [46]) := Buf.push (c := 46) rfl (by simpa using hOd)
        have hb0 : Below w.heap.size w w0 := (hb.alloc (by omega) _).grown hgd (by simp; omega) (fun k hk => (hO0.lt k hk).1)
        have d1 : w0.cell? ⟨b0, o0 + k, none⟩ = some (.string s) := (hb0.cell (p := ⟨b0, o0 + k, none⟩) t0).trans e0
        have hl1 : (acc0 ++ [46]).length + 2 * s.size ≤ 3145729 + k := by simp; omega
        clear hO0 hOd hgd hb hsz hl d0
        have hb := hb0
        have hsz := hb.size
        generalize acc0 ++ [46] = acc1 at *
        go_wp2
        go_loopw [3, 6] (fun v j wz => ∃ jj : Nat, jj ≤ s.size ∧ j = .int .i64 jj ∧ Buf wz w.heap.size v (acc1 ++ esc (s.data.toList.take jj)) ∧ Below w.heap.size w wz) (fun _ j _ => s.size - (intOf j).toNat)
        case atStart => exact ⟨0, Nat.zero_le _, rfl, by simpa [esc] using hB, hb⟩
        case round =>
          clear hB hb hsz
          obtain ⟨j, hj, rfl, hB, hb⟩ := hrel
          have hsz := hb.size
          have hel := esc_len (s.data.toList.take j)
          have hel2 : (s.data.toList.take j).length ≤ j := List.length_take_le _ _
          by_cases hjl : j < s.size
          · have HS : Hid (esc (s.data.toList.take (j + 1)) = esc (s.data.toList.take j) ++ esc1 s[j]) := esc_take s j hjl
            have hlen : (acc1 ++ esc (s.data.toList.take j)).length ≤ 3145732 + k := by rw [List.length_append]; omega
            have HX : Hid (acc1 ++ esc (s.data.toList.take (j + 1)) = acc1 ++ esc (s.data.toList.take j) ++ esc1 s[j]) := by rw [Hid, HS.out, List.append_assoc]
            clear HS hel hel2
            generalize acc1 ++ esc (s.data.toList.take j) = X at *
            have hO : wr.ownsRow w.heap.size 5 1 _ X.length (cellsOf X) := hB
            clear hB
            by_cases h46 : ((s[j].toNat : Nat) : Int) = 46
            · have HE1 : Hid (esc1 s[j] = [92, 46]) := by
                have : s[j] = 46 := UInt8.toNat_inj.1 (by have : (46 : UInt8).toNat = 46 := rfl; omega)
                rw [Hid, this]; rfl
              go_wp2_with (at_builtin; refine wpList_append_own _ rfl _ _ 48 rfl w.heap.size 5 i0 (.int .u8 0) 1 1 Try.underlying48 hi hz0 hz1 hz2 rfl (by decide) _ _ _ rfl (hO.alloc _) ⟨wr.heap.size, 0, none⟩ 1 1 [.int .u8 92] rfl rfl ?p1 ?p2 ?p3 ?p4 ?p5 ?_)
              case p1 =>
                intro j u hj
                match j, hj with
                | 0, hj => simp at hj; subst hj; simp [Addr.add]
              case p2 => intro u hu; simp at hu; subst hu; rfl
              case p3 => unfold maxLen; omega
              case p4 => omega
              case p5 => simp; omega
              intro v1 w1 hO1 hg1 _
              have hB1 : Buf w1 w.heap.size v1 (X ++ [92]) := Buf.push (c := 92) rfl (by simpa using hO1)
              have hb1 : Below w.heap.size w w1 := (hb.alloc (by omega) _).grown hg1 (by simp; omega) (fun k hk => (hO.lt k hk).1)
              have hO2 : w1.ownsRow w.heap.size 5 1 v1 (X ++ [92]).length (cellsOf (X ++ [92])) := hB1
              have hsz1 := hb1.size
              have hlen1 : (X ++ [92]).length ≤ 3145733 + k := by simp; omega
              clear hO hO1 hg1 hB1
              generalize hY : X ++ [92] = Y at *
              have HY : Hid (X ++ [92] = Y) := hY
              clear hY
              go_wp2_with (at_builtin; refine wpList_append_own _ rfl _ _ 48 rfl w.heap.size 5 i0 (.int .u8 0) 1 1 Try.underlying48 hi hz0 hz1 hz2 rfl (by decide) _ _ _ rfl (hO2.alloc _) ⟨w1.heap.size, 0, none⟩ 1 1 [.int .u8 46] rfl rfl ?q1 ?q2 ?q3 ?q4 ?q5 ?_)
              case q1 =>
                intro j u hj
                match j, hj with
                | 0, hj => simp at hj; subst hj; simp [Addr.add]
              case q2 => intro u hu; simp at hu; subst hu; rfl
              case q3 => unfold maxLen; omega
              case q4 => omega
              case q5 => simp; omega
              intro v2 w2 hO3 hg2 _
              have hB2 : Buf w2 w.heap.size v2 (Y ++ [46]) := Buf.push (c := 46) rfl (by simpa using hO3)
              have hb2 : Below w.heap.size w w2 := (hb1.alloc (by omega) _).grown hg2 (by simp; omega) (fun k hk => (hO2.lt k hk).1)
              clear hO2 hO3 hg2
              go_wp2
              go_roundw
              case rel => exact ⟨j + 1, by omega, by go_num, by rw [HX.out, HE1.out, show ([92, 46] : List UInt8) = [92] ++ [46] from rfl, ← List.append_assoc, HY.out]; exact hB2, hb2⟩
              case measure => simp [intOf]; omega
            · have b46 : (((s[j].toNat : Nat) : Int) == 46) = false := by simpa using h46
              have HE1 : Hid (esc1 s[j] = [s[j]]) := by
                have : s[j] ≠ 46 := fun e => h46 (by rw [e]; rfl)
                rw [Hid, esc1, if_neg this]
              go_wp2_with (at_builtin; refine wpList_append_own _ rfl _ _ 48 rfl w.heap.size 5 i0 (.int .u8 0) 1 1 Try.underlying48 hi hz0 hz1 hz2 rfl (by decide) _ _ _ rfl (hO.alloc _) ⟨wr.heap.size, 0, none⟩ 1 1 [.int .u8 (s[j].toNat : Int)] rfl rfl ?r1 ?r2 ?r3 ?r4 ?r5 ?_)
              case r1 =>
                intro j u hj
                match j, hj with
                | 0, hj => simp at hj; subst hj; simp [Addr.add]
              case r2 => intro u hu; simp at hu; subst hu; rfl
              case r3 => unfold maxLen; omega
              case r4 => omega
              case r5 => simp; omega
              intro v1 w1 hO1 hg1 _
              have hB1 : Buf w1 w.heap.size v1 (X ++ [s[j]]) := Buf.push (c := s[j]) rfl (by simpa using hO1)
              have hb1 : Below w.heap.size w w1 := (hb.alloc (by omega) _).grown hg1 (by simp; omega) (fun k hk => (hO.lt k hk).1)
              clear hO hO1 hg1
              go_wp2
              go_roundw
              case rel => exact ⟨j + 1, by omega, by go_num, by rw [HX.out, HE1.out]; exact hB1, hb1⟩
              case measure => simp [intOf]; omega
          · obtain rfl : j = s.size := by omega
            rw [List.take_of_length_le (by simp), ← HF.out] at hB
            go_wp2
            go_roundw
            case rel => exact ⟨k + 1, by omega, by go_num, hB, hb⟩
            case measure => simp [intOf]; omega
    · obtain rfl : k = n := by omega
      have hcv := hB.asText
      rw [List.take_of_length_le (by simp [bytesOf]; omega)] at hcv
      clear hB
      go_wp2
      go_ret
      exact ⟨rfl, hb⟩

end Go.Proofs.Qxb6001352a.Esc
