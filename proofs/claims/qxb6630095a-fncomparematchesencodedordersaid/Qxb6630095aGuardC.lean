import Derived.Test.Qxb6630095aBytes
namespace Go.Proofs.Qxb6630095a
open Go.RowKit
open Enc

/-- It returns some bool; a true says p. -/
def IsBP (p : Prop) (e : Ending) : Prop := ∃ r, e = .returned (.bool r) ∧ (r = true → p)

set_option maxRecDepth 100000 in
set_option maxHeartbeats 1000000 in
theorem guard5 (a b : Option Addr) (la ca lb cb : Nat) (xs ys : List (ByteArray × ByteArray)) (w : World) (hA : Lab w a la xs) (hB : Lab w b lb ys) (ma : la ≤ maxLen) (mb : lb ≤ maxLen) :
    Calls Try.prog 5 #[.slice a la ca, .slice b lb cb] w fun e w' => IsBP (tot xs + tot ys ≤ 1048576) e ∧ w = w' := by
  unfold maxLen at ma mb
  have HA : Hid (Lab w a la xs) := hA
  have HB : Hid (Lab w b lb ys) := hB
  clear hA hB
  by_cases t0 : 1048576 < la
  · go_enter Try.func5, Try.ntmps5
    go_wp2
    go_ret
    exact ⟨⟨false, rfl, fun h => by cases h⟩, rfl⟩
  go_enter Try.func5, Try.ntmps5
  go_wp2_with fail
  go_loop [5, 6] (fun t i => ∃ (k z : Nat), k ≤ la ∧ i = .int .i64 k ∧ t = .int .i64 (z : Int) ∧ z ≤ 1048576 ∧ z = la + tot (xs.take k)) (fun _ i => la - (intOf i).toNat)
  case atStart => exact ⟨0, la, Nat.zero_le _, rfl, by go_num, by omega, by simp [tot]⟩
  case round =>
    obtain ⟨k6, z6, hk6, rfl, rfl, z16, hz⟩ := hrel
    have HZ6 : Hid (z6 = la + tot (xs.take k6)) := hz
    clear hz
    by_cases hlt : k6 < la
    · obtain ⟨b, o, x1, x2, rfl, g1, g2, s1, s2, hx⟩ := HA.out.pick hlt
      have HT : Hid (tot (xs.take (k6 + 1)) = tot (xs.take k6) + x1.size + x2.size) := tot_snoc xs k6 x1 x2 hx
      clear hx
      unfold maxLen at s1 s2
      have hkl : (k6 : Int) < la := by omega
      go_wp2
      all_goals first
        | (go_ret; exact ⟨⟨false, rfl, fun h => by cases h⟩, rfl⟩)
        | (go_round; (case rel => exact ⟨k6 + 1, z6 + x1.size + x2.size, by omega, by go_num, by go_num, by omega, by rw [HT.out, HZ6.out]; omega⟩); (case measure => simp [intOf]; omega))
    · have HF6 : Hid (z6 = la + tot xs) := by
        have e : xs.take k6 = xs := List.take_of_length_le (by rw [HA.out.1]; omega)
        show _ = _
        rw [HZ6.out, e]
      clear HA
      by_cases t1 : 1048576 < lb
      · go_wp2
        go_ret
        exact ⟨⟨false, rfl, fun h => by cases h⟩, rfl⟩
      by_cases t2 : 1048576 < z6 + lb
      · go_wp2
        go_ret
        exact ⟨⟨false, rfl, fun h => by cases h⟩, rfl⟩
      go_wp2_with fail
      go_loop [5, 7] (fun t i => ∃ (k z : Nat), k ≤ lb ∧ i = .int .i64 k ∧ t = .int .i64 (z : Int) ∧ z ≤ 1048576 ∧ z = z6 + lb + tot (ys.take k)) (fun _ i => lb - (intOf i).toNat)
      case atStart => exact ⟨0, z6 + lb, Nat.zero_le _, rfl, by go_num, by omega, by simp [tot]⟩
      case round =>
        obtain ⟨k7, z7, hk7, rfl, rfl, z17, hz⟩ := hrel
        have HZ7 : Hid (z7 = z6 + lb + tot (ys.take k7)) := hz
        clear hz
        by_cases hlt : k7 < lb
        · obtain ⟨b, o, x1, x2, rfl, g1, g2, s1, s2, hx⟩ := HB.out.pick hlt
          have HT : Hid (tot (ys.take (k7 + 1)) = tot (ys.take k7) + x1.size + x2.size) := tot_snoc ys k7 x1 x2 hx
          clear hx
          unfold maxLen at s1 s2
          have hkl : (k7 : Int) < lb := by omega
          go_wp2
          all_goals first
            | (go_ret; exact ⟨⟨false, rfl, fun h => by cases h⟩, rfl⟩)
            | (go_round; (case rel => exact ⟨k7 + 1, z7 + x1.size + x2.size, by omega, by go_num, by go_num, by omega, by rw [HT.out, HZ7.out]; omega⟩); (case measure => simp [intOf]; omega))
        · have HF7 : Hid (z7 = z6 + lb + tot ys) := by
            have e : ys.take k7 = ys := List.take_of_length_le (by rw [HB.out.1]; omega)
            show _ = _
            rw [HZ7.out, e]
          clear HB
          go_wp2
          go_ret
          exact ⟨⟨true, rfl, fun _ => by have := HF7.out; have := HF6.out; omega⟩, rfl⟩
end Go.Proofs.Qxb6630095a
