import Derived.Test.Qxb6630095aMake
namespace Go.Proofs.Qxb6630095a
open Go.RowKit
open Go.Lib (compareBytes)

set_option maxHeartbeats 1000000 in
theorem concat_any (a b : Option Addr) (la ca lb cb : Nat) (ps xs : List (ByteArray × ByteArray)) (w : World) (hA : Lab w a la ps) (hB : Lab w b lb xs) (ma : la ≤ 65536) (mb : lb ≤ 65536) :
    Calls Try.prog 13 #[.slice a la ca, .slice b lb cb] w fun e w' => e = .returned (.slice (some ⟨w.heap.size, 0, none⟩) (la + lb) (la + lb)) ∧ Lab w' (some ⟨w.heap.size, 0, none⟩) (la + lb) (ps ++ xs) ∧ Below w.heap.size w w' := by
  obtain ⟨hxl, hsz, hA⟩ := hA
  obtain ⟨hyl, hsy, hB⟩ := hB
  have HXL : Hid (ps.length = la) := hxl
  have HYL : Hid (xs.length = lb) := hyl
  have HL : Hid ((ps ++ xs).length = la + lb) := by show _ = _; rw [List.length_append, hxl, hyl]
  have HA : Hid _ := hA
  have HB : Hid _ := hB
  have HZ : Hid (∀ p ∈ ps ++ xs, p.1.size ≤ maxLen ∧ p.2.size ≤ maxLen) := fun p hp => (List.mem_append.1 hp).elim (hsz p) (hsy p)
  have hmk := make30 (la + lb) (by omega)
  rw [Int.natCast_add] at hmk
  clear hxl hA hsz hyl hB hsy
  go_enter Try.func13, Try.ntmps13
  go_wp2
  clear hmk
  go_loopw [6] (fun i wr => ∃ k : Nat, k ≤ la ∧ i = .int .i64 k ∧ wr.rowIs w.heap.size 37 ((la + lb) * 2) (part (ps ++ xs) k) ∧ Below w.heap.size w wr) (fun i _ => la - (intOf i).toNat)
  case atStart => exact ⟨0, Nat.zero_le _, rfl, (made_row w (la + lb)).congr (fun j _ => by simp [part]), (Below.refl _ _).alloc (Nat.le_refl _) _⟩
  case round =>
    obtain ⟨k, hk, rfl, hrow, hnx⟩ := hrel
    by_cases hlt : k < la
    · obtain ⟨bb, o, rfl, hc⟩ := HA.out (by omega)
      have hkl : k < (ps ++ xs).length := by rw [HL.out]; omega
      obtain ⟨x1, hx1⟩ : ∃ x, x = ((ps ++ xs)[k]'hkl).1 := ⟨_, rfl⟩
      obtain ⟨x2, hx2⟩ : ∃ x, x = ((ps ++ xs)[k]'hkl).2 := ⟨_, rfl⟩
      have gx := hc k (by rw [HXL.out]; exact hlt)
      rw [← List.getElem_append_left (bs := xs) (h' := hkl), ← hx1, ← hx2] at gx
      have hb : bb < w.heap.size := World.block_lt_of_cell? _ _ gx.1
      have g1 : wr.cell? ⟨bb, o + k * 2, none⟩ = some (.string x1) := (hnx.cell (by exact hb)).trans gx.1
      have g2 : wr.cell? ⟨bb, o + k * 2 + 1, none⟩ = some (.string x2) := (hnx.cell (by exact hb)).trans gx.2
      have k1 := hrow.cell (i := k * 2) (by omega)
      have k2 := hrow.cell (i := k * 2 + 1) (by omega)
      have f1 := hrow.frozen (k * 2)
      have f2 := hrow.frozen (k * 2 + 1)
      have HX1 : Hid (x1 = ((ps ++ xs)[k]'hkl).1) := hx1
      have HX2 : Hid (x2 = ((ps ++ xs)[k]'hkl).2) := hx2
      have hkl2 : (k : Int) < la := by omega
      clear hc gx HA HB hx1 hx2
      go_wp2_with fail
      go_region
      go_wp2
      go_roundw
      case rel =>
        refine ⟨k + 1, by omega, by go_num, World.rowIs.drew ?_, Below.drew ?_⟩
        · refine ((hrow.set (k * 2) (.string x1)).set (k * 2 + 1) (.string x2)).congr fun j _ => ?_
          rw [HX1.out, HX2.out]
          exact part_step (ps ++ xs) k _ j
        · exact (hnx.setCell (Nat.le_refl _) _).setCell (Nat.le_refl _) _
      case measure => simp [intOf]; omega
    · have hkn : k = la := by omega
      subst hkn
      clear HA
      go_wp2_with fail
      go_loopw [7] (fun i wr => ∃ m : Nat, m ≤ lb ∧ i = .int .i64 m ∧ wr.rowIs w.heap.size 37 ((k + lb) * 2) (part (ps ++ xs) (k + m)) ∧ Below w.heap.size w wr) (fun i _ => lb - (intOf i).toNat)
      case atStart => exact ⟨0, Nat.zero_le _, rfl, hrow, hnx⟩
      case round =>
        clear hrow hnx
        obtain ⟨m, hm, rfl, hrow, hnx⟩ := hrel
        by_cases hlt2 : m < lb
        · obtain ⟨bb, o, rfl, hc⟩ := HB.out (by omega)
          have hkl : k + m < (ps ++ xs).length := by rw [HL.out]; omega
          obtain ⟨x1, hx1⟩ : ∃ x, x = ((ps ++ xs)[k + m]'hkl).1 := ⟨_, rfl⟩
          obtain ⟨x2, hx2⟩ : ∃ x, x = ((ps ++ xs)[k + m]'hkl).2 := ⟨_, rfl⟩
          have gx := hc m (by rw [HYL.out]; exact hlt2)
          have ge : (ps ++ xs)[k + m]'hkl = xs[m]'(by rw [HYL.out]; exact hlt2) := by
            rw [List.getElem_append_right (by rw [HXL.out]; omega)]
            congr 1
            rw [HXL.out]; omega
          rw [← ge, ← hx1, ← hx2] at gx
          have hb : bb < w.heap.size := World.block_lt_of_cell? _ _ gx.1
          have g1 : wr.cell? ⟨bb, o + m * 2, none⟩ = some (.string x1) := (hnx.cell (by exact hb)).trans gx.1
          have g2 : wr.cell? ⟨bb, o + m * 2 + 1, none⟩ = some (.string x2) := (hnx.cell (by exact hb)).trans gx.2
          have k1 := hrow.cell (i := (k + m) * 2) (by omega)
          have k2 := hrow.cell (i := (k + m) * 2 + 1) (by omega)
          have f1 := hrow.frozen ((k + m) * 2)
          have f2 := hrow.frozen ((k + m) * 2 + 1)
          have HX1 : Hid (x1 = ((ps ++ xs)[k + m]'hkl).1) := hx1
          have HX2 : Hid (x2 = ((ps ++ xs)[k + m]'hkl).2) := hx2
          have hkl2 : (m : Int) < lb := by omega
          have hkl3 : (k : Int) + m < k + lb := by omega
          clear hc gx HB hx1 hx2 ge
          go_wp2_with fail
          go_region
          go_wp2
          go_roundw
          case rel =>
            refine ⟨m + 1, by omega, by go_num, World.rowIs.drew ?_, Below.drew ?_⟩
            · refine ((hrow.set ((k + m) * 2) (.string x1)).set ((k + m) * 2 + 1) (.string x2)).congr fun j _ => ?_
              rw [HX1.out, HX2.out]
              exact part_step (ps ++ xs) (k + m) _ j
            · exact (hnx.setCell (Nat.le_refl _) _).setCell (Nat.le_refl _) _
          case measure => simp [intOf]; omega
        · have hmn : m = lb := by omega
          subst hmn
          clear HB
          go_wp2
          go_ret
          exact ⟨rfl, lab_of_row hrow HL.out HZ.out, hnx⟩
end Go.Proofs.Qxb6630095a
