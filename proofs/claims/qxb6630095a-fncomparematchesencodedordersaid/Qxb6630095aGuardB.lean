import Derived.Test.Qxb6630095aGuard
namespace Go.Proofs.Qxb6630095a
open Go.RowKit
open Go.Lib (compareBytes)

set_option maxRecDepth 100000 in
set_option maxHeartbeats 2000000 in
theorem guard6 (a b c : Option Addr) (la ca lb cb lc cc : Nat) (xs ys zs : List (ByteArray × ByteArray)) (w : World) (hA : Lab w a la xs) (hB : Lab w b lb ys) (hC : Lab w c lc zs) (ma : la ≤ 65536) (mb : lb ≤ 65536) (mc : lc ≤ 65536) :
    Calls Try.prog 6 #[.slice a la ca, .slice b lb cb, .slice c lc cc] w fun e w' => IsB e ∧ ∃ n, w' = w.drewN n := by
  have HA : Hid (Lab w a la xs) := hA
  have HB : Hid (Lab w b lb ys) := hB
  have HC : Hid (Lab w c lc zs) := hC
  clear hA hB hC
  go_enter Try.func6, Try.ntmps6
  go_wp2_with fail
  go_loopw [7, 8] (fun t i wr => ∃ (k n : Nat) (z : Int), k ≤ la ∧ i = .int .i64 k ∧ t = .int .i64 z ∧ 0 ≤ z ∧ z ≤ 1048576 ∧ wr = w.drewN n) (fun _ i _ => la - (intOf i).toNat)
  case atStart => exact ⟨0, _, _, Nat.zero_le _, rfl, rfl, by omega, by omega, (World.drewN_zero _).symm⟩
  case round =>
    obtain ⟨k8, n8, z8, hk8, rfl, rfl, z08, z18, hw⟩ := hrel
    have HW8 : Hid (wr = w.drewN n8) := hw
    clear hw
    by_cases hlt : k8 < la
    · obtain ⟨b, o, x1, x2, rfl, g1', g2', s1, s2, _⟩ := HA.out.pick hlt
      unfold maxLen at s1 s2
      have g1 : wr.cell? ⟨b, o + k8 * 2, none⟩ = some (.string x1) := by rw [HW8.out]; exact g1'
      have g2 : wr.cell? ⟨b, o + k8 * 2 + 1, none⟩ = some (.string x2) := by rw [HW8.out]; exact g2'
      clear g1' g2'
      have hkl : (k8 : Int) < la := by omega
      by_cases h1 : 1048576 < x1.size
      · go_wp2
        go_ret
        exact ⟨⟨_, rfl⟩, n8, HW8.out⟩
      by_cases h2 : 1048576 < x2.size
      · go_wp2
        go_ret
        exact ⟨⟨_, rfl⟩, n8, HW8.out⟩
      go_wp2_with fail
      go_quiet (fail)
      by_cases h3 : 1048576 < z8 + (32 + (x1.size : Int) + x2.size)
      · go_wp2
        go_ret
        exact ⟨⟨_, rfl⟩, n8 + nq, by rw [HW8.out]; simp⟩
      · go_wp2
        go_roundw
        case rel => exact ⟨k8 + 1, n8 + nq, _, by omega, by go_num, rfl, by omega, by omega, by rw [HW8.out]; simp⟩
        case measure => simp [intOf]; omega
    · clear HA
      go_wp2_with fail
      go_loopw [7, 9] (fun t i wr => ∃ (k n : Nat) (z : Int), k ≤ lb ∧ i = .int .i64 k ∧ t = .int .i64 z ∧ 0 ≤ z ∧ z ≤ 1048576 ∧ wr = w.drewN n) (fun _ i _ => lb - (intOf i).toNat)
      case atStart => exact ⟨0, _, _, Nat.zero_le _, rfl, rfl, by omega, by omega, HW8.out⟩
      case round =>
        obtain ⟨k9, n9, z9, hk9, rfl, rfl, z09, z19, hw⟩ := hrel
        have HW9 : Hid (wr = w.drewN n9) := hw
        clear hw
        by_cases hlt : k9 < lb
        · obtain ⟨b, o, x1, x2, rfl, g1', g2', s1, s2, _⟩ := HB.out.pick hlt
          unfold maxLen at s1 s2
          have g1 : wr.cell? ⟨b, o + k9 * 2, none⟩ = some (.string x1) := by rw [HW9.out]; exact g1'
          have g2 : wr.cell? ⟨b, o + k9 * 2 + 1, none⟩ = some (.string x2) := by rw [HW9.out]; exact g2'
          clear g1' g2'
          have hkl : (k9 : Int) < lb := by omega
          by_cases h1 : 1048576 < x1.size
          · go_wp2
            go_ret
            exact ⟨⟨_, rfl⟩, n9, HW9.out⟩
          by_cases h2 : 1048576 < x2.size
          · go_wp2
            go_ret
            exact ⟨⟨_, rfl⟩, n9, HW9.out⟩
          go_wp2_with fail
          go_quiet (fail)
          by_cases h3 : 1048576 < z9 + (32 + (x1.size : Int) + x2.size)
          · go_wp2
            go_ret
            exact ⟨⟨_, rfl⟩, n9 + nq, by rw [HW9.out]; simp⟩
          · go_wp2
            go_roundw
            case rel => exact ⟨k9 + 1, n9 + nq, _, by omega, by go_num, rfl, by omega, by omega, by rw [HW9.out]; simp⟩
            case measure => simp [intOf]; omega
        · clear HB
          go_wp2_with fail
          go_loopw [7, 10] (fun t i wr => ∃ (k n : Nat) (z : Int), k ≤ lc ∧ i = .int .i64 k ∧ t = .int .i64 z ∧ 0 ≤ z ∧ z ≤ 1048576 ∧ wr = w.drewN n) (fun _ i _ => lc - (intOf i).toNat)
          case atStart => exact ⟨0, _, _, Nat.zero_le _, rfl, rfl, by omega, by omega, HW9.out⟩
          case round =>
            obtain ⟨k10, n10, z10, hk10, rfl, rfl, z010, z110, hw⟩ := hrel
            have HW10 : Hid (wr = w.drewN n10) := hw
            clear hw
            by_cases hlt : k10 < lc
            · obtain ⟨b, o, x1, x2, rfl, g1', g2', s1, s2, _⟩ := HC.out.pick hlt
              unfold maxLen at s1 s2
              have g1 : wr.cell? ⟨b, o + k10 * 2, none⟩ = some (.string x1) := by rw [HW10.out]; exact g1'
              have g2 : wr.cell? ⟨b, o + k10 * 2 + 1, none⟩ = some (.string x2) := by rw [HW10.out]; exact g2'
              clear g1' g2'
              have hkl : (k10 : Int) < lc := by omega
              by_cases h1 : 1048576 < x1.size
              · go_wp2
                go_ret
                exact ⟨⟨_, rfl⟩, n10, HW10.out⟩
              by_cases h2 : 1048576 < x2.size
              · go_wp2
                go_ret
                exact ⟨⟨_, rfl⟩, n10, HW10.out⟩
              go_wp2_with fail
              go_quiet (fail)
              by_cases h3 : 1048576 < z10 + (32 + (x1.size : Int) + x2.size)
              · go_wp2
                go_ret
                exact ⟨⟨_, rfl⟩, n10 + nq, by rw [HW10.out]; simp⟩
              · go_wp2
                go_roundw
                case rel => exact ⟨k10 + 1, n10 + nq, _, by omega, by go_num, rfl, by omega, by omega, by rw [HW10.out]; simp⟩
                case measure => simp [intOf]; omega
            · clear HC
              go_wp2
              go_ret
              exact ⟨⟨_, rfl⟩, n10, HW10.out⟩
end Go.Proofs.Qxb6630095a
