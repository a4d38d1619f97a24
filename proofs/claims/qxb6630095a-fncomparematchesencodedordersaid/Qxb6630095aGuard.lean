import Derived.Test.Qxb6630095aConcat
namespace Go.Proofs.Qxb6630095a
open Go.RowKit
open Go.Lib (compareBytes)

/-- It returns some bool. -/
def IsB (e : Ending) : Prop := ∃ r, e = .returned (.bool r)
theorem Lab.pick {w : World} {a : Option Addr} {la : Nat} {xs : List (ByteArray × ByteArray)} (h : Lab w a la xs) {k : Nat} (hk : k < la) :
    ∃ b o x1 x2, a = some ⟨b, o, none⟩ ∧ w.cell? ⟨b, o + k * 2, none⟩ = some (.string x1) ∧ w.cell? ⟨b, o + k * 2 + 1, none⟩ = some (.string x2) ∧ x1.size ≤ maxLen ∧ x2.size ≤ maxLen ∧ xs[k]? = some (x1, x2) := by
  obtain ⟨hl, hz, h⟩ := h
  obtain ⟨b, o, e, hc⟩ := h (by omega)
  have hk' : k < xs.length := by omega
  have hm := hz _ (List.getElem_mem hk')
  exact ⟨b, o, xs[k].1, xs[k].2, e, (hc k hk').1, (hc k hk').2, hm.1, hm.2, List.getElem?_eq_getElem hk'⟩

set_option maxRecDepth 100000 in
set_option maxHeartbeats 1000000 in
theorem guard12 (a b c : Option Addr) (la ca lb cb lc cc : Nat) (xs ys zs : List (ByteArray × ByteArray)) (w : World) (hA : Lab w a la xs) (hB : Lab w b lb ys) (hC : Lab w c lc zs) (ma : la ≤ maxLen) (mb : lb ≤ maxLen) (mc : lc ≤ maxLen) :
    Calls Try.prog 12 #[.slice a la ca, .slice b lb cb, .slice c lc cc] w fun e w' => IsB e ∧ w = w' := by
  unfold maxLen at ma mb mc
  have HA : Hid (Lab w a la xs) := hA
  have HB : Hid (Lab w b lb ys) := hB
  have HC : Hid (Lab w c lc zs) := hC
  clear hA hB hC
  by_cases t0 : 1048576 < la
  · go_enter Try.func12, Try.ntmps12
    go_wp2
    go_ret
    exact ⟨⟨_, rfl⟩, rfl⟩
  go_enter Try.func12, Try.ntmps12
  go_wp2_with fail
  go_loop [7, 8] (fun t i => ∃ (k : Nat) (z : Int), k ≤ la ∧ i = .int .i64 k ∧ t = .int .i64 z ∧ 0 ≤ z ∧ z ≤ 1048576) (fun _ i => la - (intOf i).toNat)
  case atStart => exact ⟨0, _, Nat.zero_le _, rfl, rfl, by omega, by omega⟩
  case round =>
    obtain ⟨k8, z8, hk8, rfl, rfl, z08, z18⟩ := hrel
    by_cases hlt : k8 < la
    · obtain ⟨b, o, x1, x2, rfl, g1, g2, s1, s2, _⟩ := HA.out.pick hlt
      unfold maxLen at s1 s2
      have hkl : (k8 : Int) < la := by omega
      go_wp2
      all_goals first
        | (go_ret; exact ⟨⟨_, rfl⟩, rfl⟩)
        | (go_round; (case rel => exact ⟨k8 + 1, _, by omega, by go_num, rfl, by omega, by omega⟩); (case measure => simp [intOf]; omega))
    · clear HA
      by_cases t1 : 1048576 < lb
      · go_wp2
        go_ret
        exact ⟨⟨_, rfl⟩, rfl⟩
      by_cases t2 : 1048576 < z8 + (lb : Int)
      · go_wp2
        go_ret
        exact ⟨⟨_, rfl⟩, rfl⟩
      go_wp2_with fail
      go_loop [7, 9] (fun t i => ∃ (k : Nat) (z : Int), k ≤ lb ∧ i = .int .i64 k ∧ t = .int .i64 z ∧ 0 ≤ z ∧ z ≤ 1048576) (fun _ i => lb - (intOf i).toNat)
      case atStart => exact ⟨0, _, Nat.zero_le _, rfl, rfl, by omega, by omega⟩
      case round =>
        obtain ⟨k9, z9, hk9, rfl, rfl, z09, z19⟩ := hrel
        by_cases hlt : k9 < lb
        · obtain ⟨b, o, x1, x2, rfl, g1, g2, s1, s2, _⟩ := HB.out.pick hlt
          unfold maxLen at s1 s2
          have hkl : (k9 : Int) < lb := by omega
          go_wp2
          all_goals first
            | (go_ret; exact ⟨⟨_, rfl⟩, rfl⟩)
            | (go_round; (case rel => exact ⟨k9 + 1, _, by omega, by go_num, rfl, by omega, by omega⟩); (case measure => simp [intOf]; omega))
        · clear HB
          by_cases t1 : 1048576 < lc
          · go_wp2
            go_ret
            exact ⟨⟨_, rfl⟩, rfl⟩
          by_cases t2 : 1048576 < z9 + (lc : Int)
          · go_wp2
            go_ret
            exact ⟨⟨_, rfl⟩, rfl⟩
          go_wp2_with fail
          go_loop [7, 10] (fun t i => ∃ (k : Nat) (z : Int), k ≤ lc ∧ i = .int .i64 k ∧ t = .int .i64 z ∧ 0 ≤ z ∧ z ≤ 1048576) (fun _ i => lc - (intOf i).toNat)
          case atStart => exact ⟨0, _, Nat.zero_le _, rfl, rfl, by omega, by omega⟩
          case round =>
            obtain ⟨k10, z10, hk10, rfl, rfl, z010, z110⟩ := hrel
            by_cases hlt : k10 < lc
            · obtain ⟨b, o, x1, x2, rfl, g1, g2, s1, s2, _⟩ := HC.out.pick hlt
              unfold maxLen at s1 s2
              have hkl : (k10 : Int) < lc := by omega
              go_wp2
              all_goals first
                | (go_ret; exact ⟨⟨_, rfl⟩, rfl⟩)
                | (go_round; (case rel => exact ⟨k10 + 1, _, by omega, by go_num, rfl, by omega, by omega⟩); (case measure => simp [intOf]; omega))
            · clear HC
              go_wp2
              go_ret
              exact ⟨⟨_, rfl⟩, rfl⟩
end Go.Proofs.Qxb6630095a
