import Derived.Test.Qxb6630095aGuardB
import Derived.Test.Qxb6630095aEncLab
namespace Go.Proofs.Qxb6630095a
open Go.RowKit
open Enc

theorem info5 : (Try.prog.info? 5).map (fun i => (i.zero, i.size, i.bytes)) = some (some (.int .u8 0), 1, 1) := by kernel_rfl

/-- Bytes as cells. -/
def bys (l : List UInt8) : List Value := l.map fun c => .int .u8 (c.toNat : Int)
theorem bys_append (l m : List UInt8) : bys (l ++ m) = bys l ++ bys m := List.map_append
theorem bys_length (l : List UInt8) : (bys l).length = l.length := List.length_map _

/-- The row of bytes that a slice value owns. -/
def Own (w : World) (base : Nat) (v : Value) (l : List UInt8) : Prop := w.ownsRow base 5 1 v l.length (bys l)

theorem two_new (w : World) (x y : Value) (t : TypeId) : ∀ j u, [x, y][j]? = some u → (w.alloc (.cells #[x, y] t)).cell? ((⟨w.heap.size, 0, none⟩ : Addr).add j) = some u := by
  intro j u hj
  match j, hj with
  | 0, hj => simp at hj; subst hj; simp [Addr.add]
  | 1, hj => simp at hj; subst hj; simp [Addr.add]

theorem enc_snoc (s : ByteArray) (k : Nat) (h : k < s.size) : (s.data.toList.take (k + 1)).flatMap encB = (s.data.toList.take k).flatMap encB ++ encB s[k] := by
  rw [List.take_succ_eq_append_getElem (by simpa using h), List.flatMap_append]
  simp; rfl

set_option maxRecDepth 100000 in
set_option maxHeartbeats 1000000 in
theorem enc14 (base : Nat) (v : Value) (xs : List UInt8) (s : ByteArray) (w : World) (hown : Own w base v xs) (hbase : base ≤ w.heap.size) (hlen : xs.length + 2 * s.size + 2 ≤ 1000000000) :
    Calls Try.prog 14 #[v, .string s] w fun e w' => ∃ v', e = .returned v' ∧ Own w' base v' (xs ++ encS s.data.toList) ∧ Below base w w' := by
  obtain ⟨i0, hi, hz0, hz1, hz2⟩ := info_parts info5
  have HO : Hid (Own w base v xs) := hown
  clear hown
  go_enter Try.func14, Try.ntmps14
  go_wp2
  go_loopw [0, 5] (fun v i wr => ∃ k : Nat, k ≤ s.size ∧ i = .int .i64 k ∧ Own wr base v (xs ++ (s.data.toList.take k).flatMap encB) ∧ (xs ++ (s.data.toList.take k).flatMap encB).length ≤ xs.length + 2 * k ∧ Below base w wr ∧ base ≤ wr.heap.size) (fun _ i _ => s.size - (intOf i).toNat)
  case atStart => exact ⟨0, Nat.zero_le _, rfl, by simpa using HO.out, by simp, Below.refl _ _, hbase⟩
  case round =>
    clear HO
    obtain ⟨k, hk, rfl, hown, hll, hnx, hbw⟩ := hrel
    unfold Own at hown
    by_cases hlt : k < s.size
    · have hsn := enc_snoc s k hlt
      by_cases hc : s[k] = 0
      · have hz : ((s[k].toNat : Nat) : Int) = 0 := by rw [hc]; rfl
        have HS : Hid ((s.data.toList.take (k + 1)).flatMap encB = (s.data.toList.take k).flatMap encB ++ [0, 255]) := by
          show _ = _
          rw [hsn, hc]; rfl
        clear hsn hc
        go_wp2_with (at_builtin; refine wpList_append_own _ rfl (.tmp 16) (.tmp 17) 25 rfl base 5 i0 (.int .u8 0) 1 1 Try.underlying25 hi hz0 hz1 hz2 rfl (by decide) _ _ _ rfl (hown.alloc _) ⟨wr.heap.size, 0, none⟩ 2 2 [.int .u8 0, .int .u8 255] rfl rfl (two_new _ _ _ _) (ints_oneCell .u8 [0, 255]) (by unfold maxLen; omega) (by omega) (by simp; omega) ?_; intro v' w1 hown' hgrow _)
        have R : Own w1 base v' (xs ++ (s.data.toList.take (k + 1)).flatMap encB) := by
          rw [HS.out, ← List.append_assoc]
          unfold Own
          rw [bys_append, List.length_append]
          exact hown'
        have hnx1 : Below base w w1 := (hnx.alloc hbw _).grown hgrow (by simp; omega) (fun j hj => (hown.lt j hj).1)
        have hb1 : base ≤ w1.heap.size := Nat.le_trans hbw (Nat.le_trans (by simp) hgrow.size)
        clear hown hown' hgrow hnx
        go_wp2
        go_roundw
        case rel => exact ⟨k + 1, by omega, by go_num, R, by rw [HS.out]; simp at hll ⊢; omega, hnx1, hb1⟩
        case measure => simp [intOf]; omega
      · have hz : ((s[k].toNat : Nat) : Int) ≠ 0 := by
          intro e
          exact hc (UInt8.toNat_inj.1 (by simpa using e))
        have HS : Hid ((s.data.toList.take (k + 1)).flatMap encB = (s.data.toList.take k).flatMap encB ++ [s[k]]) := by
          show _ = _
          rw [hsn]; simp [encB, hc]
        clear hsn hc
        go_wp2_with (at_builtin; refine wpList_append_own _ rfl (.tmp 19) (.tmp 23) 25 rfl base 5 i0 (.int .u8 0) 1 1 Try.underlying25 hi hz0 hz1 hz2 rfl (by decide) _ _ _ rfl (hown.alloc _) ⟨wr.heap.size, 0, none⟩ 1 1 [.int .u8 (s[k].toNat : Int)] rfl rfl (cell_one_new _ _ _) (ints_oneCell .u8 [(s[k].toNat : Int)]) (by unfold maxLen; omega) (by omega) (by simp; omega) ?_; intro v' w1 hown' hgrow _)
        have R : Own w1 base v' (xs ++ (s.data.toList.take (k + 1)).flatMap encB) := by
          rw [HS.out, ← List.append_assoc]
          unfold Own
          rw [bys_append, List.length_append]
          exact hown'
        have hnx1 : Below base w w1 := (hnx.alloc hbw _).grown hgrow (by simp; omega) (fun j hj => (hown.lt j hj).1)
        have hb1 : base ≤ w1.heap.size := Nat.le_trans hbw (Nat.le_trans (by simp) hgrow.size)
        clear hown hown' hgrow hnx
        go_wp2
        go_roundw
        case rel => exact ⟨k + 1, by omega, by go_num, R, by rw [HS.out]; simp at hll ⊢; omega, hnx1, hb1⟩
        case measure => simp [intOf]; omega
    · have hks : k = s.size := by omega
      subst hks
      have HT : Hid (s.data.toList.take s.size = s.data.toList) := List.take_of_length_le (by simp)
      go_wp2_with (at_builtin; refine wpList_append_own _ rfl (.tmp 25) (.tmp 26) 25 rfl base 5 i0 (.int .u8 0) 1 1 Try.underlying25 hi hz0 hz1 hz2 rfl (by decide) _ _ _ rfl (hown.alloc _) ⟨wr.heap.size, 0, none⟩ 2 2 [.int .u8 0, .int .u8 1] rfl rfl (two_new _ _ _ _) (ints_oneCell .u8 [0, 1]) (by unfold maxLen; omega) (by omega) (by simp; omega) ?_; intro v' w1 hown' hgrow _)
      have R : Own w1 base v' (xs ++ encS s.data.toList) := by
        unfold encS
        rw [HT.out] at hown'
        rw [← List.append_assoc]
        unfold Own
        rw [bys_append, List.length_append]
        exact hown'
      have hnx1 : Below base w w1 := (hnx.alloc hbw _).grown hgrow (by simp; omega) (fun j hj => (hown.lt j hj).1)
      clear hown hown' hgrow hnx
      go_wp2
      go_ret
      exact ⟨_, rfl, R, hnx1⟩

theorem encL_snoc (xs : List (ByteArray × ByteArray)) (k : Nat) (x1 x2 : ByteArray) (h : xs[k]? = some (x1, x2)) : encL (xs.take (k + 1)) = encL (xs.take k) ++ encS x1.data.toList ++ encS x2.data.toList := by
  rw [List.take_add_one, h]
  simp [encL]
theorem tot_take (xs : List (ByteArray × ByteArray)) (k : Nat) : tot (xs.take k) ≤ tot xs := by
  conv => rhs; rw [← List.take_append_drop k xs]
  unfold tot
  rw [List.map_append, List.sum_append]
  omega
theorem tot_snoc (xs : List (ByteArray × ByteArray)) (k : Nat) (x1 x2 : ByteArray) (h : xs[k]? = some (x1, x2)) : tot (xs.take (k + 1)) = tot (xs.take k) + x1.size + x2.size := by
  rw [List.take_add_one, h]
  simp [tot]; omega

set_option maxRecDepth 100000 in
set_option maxHeartbeats 1000000 in
theorem enc7 (a : Option Addr) (la ca : Nat) (xs : List (ByteArray × ByteArray)) (w : World) (hA : Lab w a la xs) (ma : la ≤ 65536) (ht : tot xs ≤ 1048576) :
    Calls Try.prog 7 #[.slice a la ca] w fun e w' => ∃ v', e = .returned v' ∧ Own w' w.heap.size v' (encL xs) ∧ Below w.heap.size w w' := by
  have HA : Hid (Lab w a la xs) := hA
  have HL : Hid (xs.length = la) := hA.1
  clear hA
  go_enter Try.func7, Try.ntmps7
  go_wp2
  go_loopw [3, 4] (fun v i wr => ∃ k : Nat, k ≤ la ∧ i = .int .i64 k ∧ Own wr w.heap.size v (encL (xs.take k)) ∧ Below w.heap.size w wr) (fun _ i _ => la - (intOf i).toNat)
  case atStart => exact ⟨0, Nat.zero_le _, rfl, World.ownsRow_nil _ _ _ _, Below.refl _ _⟩
  case round =>
    obtain ⟨k, hk, rfl, hown, hnx⟩ := hrel
    by_cases hlt : k < la
    · obtain ⟨b, o, x1, x2, rfl, c1, c2, s1, s2, hx⟩ := HA.out.pick hlt
      have hb : b < w.heap.size := World.block_lt_of_cell? _ _ c1
      have hle := encL_le (xs.take k)
      have htk := tot_snoc xs k x1 x2 hx
      have htt := tot_take xs (k + 1)
      have hlk : (xs.take k).length ≤ k := List.length_take_le _ _
      have g1 : wr.cell? ⟨b, o + k * 2, none⟩ = some (.string x1) := (hnx.cell (by exact hb)).trans c1
      have HS : Hid (encL (xs.take (k + 1)) = encL (xs.take k) ++ encS x1.data.toList ++ encS x2.data.toList) := encL_snoc xs k x1 x2 hx
      have HT : Hid (tot (xs.take (k + 1)) = tot (xs.take k) + x1.size + x2.size) := htk
      have hE := encS_le x1.data.toList
      have hE1 : x1.data.toList.length = x1.size := by simp
      have hb1 : (encL (xs.take k)).length + 2 * x1.size + 2 ≤ 1000000000 := by omega
      have hb2 : (encL (xs.take k) ++ encS x1.data.toList).length + 2 * x2.size + 2 ≤ 1000000000 := by rw [List.length_append]; omega
      have hkl : (k : Int) < la := by omega
      have HO : Hid (Own wr w.heap.size u3 (encL (xs.take k))) := hown
      have HC2 : Hid (w.cell? ⟨b, o + k * 2 + 1, none⟩ = some (.string x2)) := c2
      clear c1 c2 s1 s2 hx hle htk htt hlk hE hE1 hown HA
      go_wp2_with fail
      refine (enc14 w.heap.size _ _ x1 _ HO.out hnx.size hb1).mono ?_
      rintro e w1 ⟨v1, rfl, hown1, C1⟩
      have hnx1 : Below w.heap.size w w1 := hnx.trans C1
      have g2 : w1.cell? ⟨b, o + k * 2 + 1, none⟩ = some (.string x2) := (hnx1.cell (by exact hb)).trans HC2.out
      have HO1 : Hid (Own w1 w.heap.size v1 (encL (xs.take k) ++ encS x1.data.toList)) := hown1
      clear hown1 C1 hnx HO g1
      go_wp2_with fail
      refine (enc14 w.heap.size _ _ x2 _ HO1.out hnx1.size hb2).mono ?_
      rintro e w2 ⟨v2, rfl, hown2, C2⟩
      have hnx2 : Below w.heap.size w w2 := hnx1.trans C2
      have HO2 : Hid (Own w2 w.heap.size v2 (encL (xs.take (k + 1)))) := by rw [HS.out]; exact hown2
      clear hown2 C2 hnx1 HO1 g2
      go_wp2
      go_roundw
      case rel => exact ⟨k + 1, by omega, by go_num, HO2.out, hnx2⟩
      case measure => simp [intOf]; omega
    · have hks : k = la := by omega
      subst hks
      clear HA
      have HT : Hid (xs.take k = xs) := List.take_of_length_le (by rw [HL.out]; omega)
      have HO : Hid (Own wr w.heap.size u3 (encL xs)) := by rw [HT.out] at hown; exact hown
      clear hown
      go_wp2
      go_ret
      exact ⟨_, rfl, HO.out, hnx⟩
end Go.Proofs.Qxb6630095a
