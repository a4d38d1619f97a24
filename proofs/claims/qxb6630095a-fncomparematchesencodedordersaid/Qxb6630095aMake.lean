import Derived.Test.Qxb6630095aWalks
import Derived.Deep.OwnRows
import Derived.Lib.LazyBuf
namespace Go.Proofs.Qxb6630095a
open Go.RowKit
open Go.Lib (compareBytes)

theorem info37 : (Try.prog.info? 37).map (fun i => (i.zero, i.size, i.bytes)) = some (some (.agg #[.string { data := #[] }, .string { data := #[] }]), 2, 32) := by kernel_rfl

theorem make30 (n : Nat) (hn : n ≤ 1000000) (w : World) :
    (Instr.makeSlice 30 (.int .i64 (n : Int)) (.int .i64 (n : Int))).run Try.prog w = .ok (.slice (some ⟨w.heap.size, 0, none⟩) n n) (w.alloc (.cells (madeCells #[.string { data := #[] }, .string { data := #[] }] (n * 2)) 37)) := by
  obtain ⟨i, hi, hzz⟩ := Option.map_eq_some_iff.1 info37
  simp only [Prod.mk.injEq] at hzz
  obtain ⟨hz, hs, hb⟩ := hzz
  have hr := run_make (P := Try.prog) w 30 37 i _ Try.underlying30 hi hz .i64 .i64 n n (by omega) (Int.le_refl _) (by rw [hb]; omega) (by omega)
  simp only [Int.toNat_natCast, hs] at hr
  exact hr

/-- The j-th cell of a row of labels. -/
def cellOf (ls : List (ByteArray × ByteArray)) (j : Nat) : Value :=
  if j % 2 = 0 then .string (ls.getD (j / 2) (ByteArray.empty, ByteArray.empty)).1 else .string (ls.getD (j / 2) (ByteArray.empty, ByteArray.empty)).2
/-- .. the first k labels laid, the rest still nought. -/
def part (ls : List (ByteArray × ByteArray)) (k j : Nat) : Value := if j < k * 2 then cellOf ls j else .string { data := #[] }

theorem made_row (w : World) (n : Nat) : (w.alloc (.cells (madeCells #[.string { data := #[] }, .string { data := #[] }] (n * 2)) 37)).rowIs w.heap.size 37 (n * 2) (fun _ => .string { data := #[] }) := by
  refine ⟨_, (MapKept.heap_alloc w _).1, size_madeCells _ _, fun i hi => ?_⟩
  have : i % 2 = 0 ∨ i % 2 = 1 := by omega
  rcases this with h | h <;> simp [madeCells, hi, h]

theorem cellOf_even (ls : List (ByteArray × ByteArray)) (j : Nat) (h : j < ls.length) : cellOf ls (j * 2) = .string ls[j].1 := by
  unfold cellOf
  rw [if_pos (by omega), show j * 2 / 2 = j by omega, List.getD_eq_getElem?_getD, List.getElem?_eq_getElem h]
  rfl
theorem cellOf_odd (ls : List (ByteArray × ByteArray)) (j : Nat) (h : j < ls.length) : cellOf ls (j * 2 + 1) = .string ls[j].2 := by
  unfold cellOf
  rw [if_neg (by omega), show (j * 2 + 1) / 2 = j by omega, List.getD_eq_getElem?_getD, List.getElem?_eq_getElem h]
  rfl
theorem part_step (ls : List (ByteArray × ByteArray)) (k : Nat) (h : k < ls.length) (j : Nat) :
    (if j = k * 2 + 1 then .string ls[k].2 else if j = k * 2 then .string ls[k].1 else part ls k j) = part ls (k + 1) j := by
  unfold part
  by_cases h1 : j = k * 2 + 1
  · subst h1
    rw [if_pos rfl, if_pos (by omega), cellOf_odd ls k h]
  · rw [if_neg h1]
    by_cases h2 : j = k * 2
    · subst h2
      rw [if_pos rfl, if_pos (by omega), cellOf_even ls k h]
    · rw [if_neg h2]
      by_cases h3 : j < k * 2
      · rw [if_pos h3, if_pos (by omega)]
      · rw [if_neg h3, if_neg (by omega)]
theorem lab_of_row {w : World} {b t : Nat} {ls : List (ByteArray × ByteArray)} {len : Nat} (h : w.rowIs b t (len * 2) (part ls len)) (hl : ls.length = len) (hz : ∀ p ∈ ls, p.1.size ≤ maxLen ∧ p.2.size ≤ maxLen) : Lab w (some ⟨b, 0, none⟩) len ls := by
  refine ⟨hl, hz, fun _ => ⟨b, 0, rfl, fun j hj => ⟨?_, ?_⟩⟩⟩
  · rw [Nat.zero_add, h.cell (by omega)]
    unfold part
    rw [if_pos (by omega), cellOf_even ls j hj]
  · rw [Nat.zero_add, h.cell (by omega)]
    unfold part
    rw [if_pos (by omega), cellOf_odd ls j hj]

set_option maxHeartbeats 400000 in
theorem labels_some (x : Addr) (la ca : Nat) (xs : List (ByteArray × ByteArray)) (w : World) (hA : Lab w (some x) la xs) (ma : la ≤ 65536) :
    Calls Try.prog 10 #[.slice (some x) la ca] w fun e w' => e = .returned (.slice (some ⟨w.heap.size, 0, none⟩) la la) ∧ Lab w' (some ⟨w.heap.size, 0, none⟩) la xs ∧ Below w.heap.size w w' := by
  obtain ⟨hxl, hsz, hA⟩ := hA
  have HXL : Hid (xs.length = la) := hxl
  have HA : Hid _ := hA
  have HZ : Hid _ := hsz
  have hmk := make30 la (by omega)
  have hne := fun w => Go.run_eql_slice_nil (P := Try.prog) w 22 35 (some x) la ca Try.underlying22
  clear hxl hA hsz
  go_enter Try.func10, Try.ntmps10
  go_wp2
  clear hne hmk
  go_loopw [4] (fun i wr => ∃ k : Nat, k ≤ la ∧ i = .int .i64 k ∧ wr.rowIs w.heap.size 37 (la * 2) (part xs k) ∧ Below w.heap.size w wr) (fun i _ => la - (intOf i).toNat)
  case atStart => exact ⟨0, Nat.zero_le _, rfl, (made_row w la).congr (fun j _ => by simp [part]), (Below.refl _ _).alloc (Nat.le_refl _) _⟩
  case round =>
    obtain ⟨k, hk, rfl, hrow, hnx⟩ := hrel
    by_cases hlt : k < la
    · obtain ⟨b, o, hx, hc⟩ := HA.out (by omega)
      cases hx
      obtain ⟨x1, hx1⟩ : ∃ x, x = (xs[k]'(by rw [HXL.out]; exact hlt)).1 := ⟨_, rfl⟩
      obtain ⟨x2, hx2⟩ : ∃ x, x = (xs[k]'(by rw [HXL.out]; exact hlt)).2 := ⟨_, rfl⟩
      have gx := hc k (by rw [HXL.out]; exact hlt)
      rw [← hx1, ← hx2] at gx
      have hb : b < w.heap.size := World.block_lt_of_cell? _ _ gx.1
      have g1 : wr.cell? ⟨b, o + k * 2, none⟩ = some (.string x1) := (hnx.cell (by exact hb)).trans gx.1
      have g2 : wr.cell? ⟨b, o + k * 2 + 1, none⟩ = some (.string x2) := (hnx.cell (by exact hb)).trans gx.2
      have k1 := hrow.cell (i := k * 2) (by omega)
      have k2 := hrow.cell (i := k * 2 + 1) (by omega)
      have f1 := hrow.frozen (k * 2)
      have f2 := hrow.frozen (k * 2 + 1)
      have HX1 : Hid (x1 = (xs[k]'(by rw [HXL.out]; exact hlt)).1) := hx1
      have HX2 : Hid (x2 = (xs[k]'(by rw [HXL.out]; exact hlt)).2) := hx2
      have hkl : (k : Int) < la := by omega
      clear hc gx HA hx1 hx2
      go_wp2_with fail
      go_region
      go_wp2
      go_roundw
      case rel =>
        refine ⟨k + 1, by omega, by go_num, World.rowIs.drew ?_, Below.drew ?_⟩
        · refine ((hrow.set (k * 2) (.string x1)).set (k * 2 + 1) (.string x2)).congr fun j _ => ?_
          rw [HX1.out, HX2.out]
          exact part_step xs k _ j
        · exact (hnx.setCell (Nat.le_refl _) _).setCell (Nat.le_refl _) _
      case measure => simp [intOf]; omega
    · have hkn : k = la := by omega
      subst hkn
      clear HA
      go_wp2
      go_ret
      exact ⟨rfl, lab_of_row hrow HXL.out HZ.out, hnx⟩

set_option maxHeartbeats 400000 in
theorem labels_any (a : Option Addr) (la ca : Nat) (xs : List (ByteArray × ByteArray)) (w : World) (hA : Lab w a la xs) (ma : la ≤ 65536) :
    Calls Try.prog 10 #[.slice a la ca] w fun e w' => ∃ a', e = .returned (.slice a' la la) ∧ Lab w' a' la xs ∧ Below w.heap.size w w' := by
  cases a with
  | some x => exact (labels_some x la ca xs w hA ma).mono fun e w' h => ⟨_, h⟩
  | none =>
    have hla : la = 0 := by
      by_cases h : 0 < la
      · obtain ⟨b, o, e, _⟩ := hA.2.2 h; cases e
      · omega
    subst hla
    have hne := fun w => Go.run_eql_slice_nil (P := Try.prog) w 22 35 none 0 ca Try.underlying22
    go_enter Try.func10, Try.ntmps10
    go_wp2
    go_ret
    exact ⟨none, rfl, hA, Below.refl _ _⟩
end Go.Proofs.Qxb6630095a
