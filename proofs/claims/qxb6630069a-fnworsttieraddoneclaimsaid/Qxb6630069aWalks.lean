import Derived.Test.Qxb6630069aRows
import Derived.Test.Qxb6630069aPlain
import Derived.WalkKit
import Derived.WalkSpells
import Derived.WalkLawsBesides
import Derived.Maps.RangeWalk
import Derived.Maps.OwnOps
import Derived.OpenShut
import Derived.Handy
namespace Go.Proofs.Qxb6630069a
open Go.RowKit Go.Maps

theorem law29 : Keyed Try.prog 29 := int_keyed Try.underlying29
theorem zero28 (w : World) : (zeroValue 28).run Try.prog w = .ok (.int .i8 0) w := by kernel_rfl
theorem make27 (n : Int) (w : World) : (Instr.makeMap 27 (some (.int .i64 n))).run Try.prog w = .ok (.map (some w.heap.size)) (w.alloc (.map #[] 0)) := by
  simp [Instr.makeMap, run_underlying Try.underlying27, asInt, asIntOf, Result.andThen]

theorem ret_int {k : IntKind} {a b : Int} (h : a = b) : Ending.returned (.int k a) = .returned (.int k b) := by rw [h]

theorem tierOf_any (x : Int) (w : World) :
    Calls Try.prog 12 #[.int .i8 x] w fun e w' => e = .returned (.int .i64 (trR (rankV x))) ∧ w' = w := by
  by_cases h1 : -1 ≤ x ∧ x ≤ 1
  · rw [rankV_1 x h1]
    obtain ⟨a, b⟩ := h1
    go_enter Try.func12, Try.ntmps12
    go_wp2
    go_ret
    exact ⟨rfl, rfl⟩
  by_cases h2 : 2 ≤ x ∧ x ≤ 31
  · rw [rankV_0 x (.inl h2)]
    obtain ⟨a, b⟩ := h2
    clear h1
    go_enter Try.func12, Try.ntmps12
    go_wp2
    go_ret
    exact ⟨rfl, rfl⟩
  by_cases h3 : -32 ≤ x ∧ x ≤ -2
  · rw [rankV_0 x (.inr h3)]
    obtain ⟨a, b⟩ := h3
    clear h1 h2
    go_enter Try.func12, Try.ntmps12
    go_wp2
    go_ret
    exact ⟨rfl, rfl⟩
  by_cases h4 : 32 ≤ x ∧ x ≤ 95
  · rw [rankV_2 x (.inl h4)]
    obtain ⟨a, b⟩ := h4
    clear h1 h2 h3
    go_enter Try.func12, Try.ntmps12
    go_wp2
    go_ret
    exact ⟨rfl, rfl⟩
  by_cases h5 : -96 ≤ x ∧ x ≤ -33
  · rw [rankV_2 x (.inr h5)]
    obtain ⟨a, b⟩ := h5
    clear h1 h2 h3 h4
    go_enter Try.func12, Try.ntmps12
    go_wp2
    go_ret
    exact ⟨rfl, rfl⟩
  rw [rankV_3 x (by omega)]
  by_cases h6 : 96 ≤ x
  · clear h1 h2 h3 h4 h5
    go_enter Try.func12, Try.ntmps12
    go_wp2
    go_ret
    exact ⟨rfl, rfl⟩
  · have h7 : x ≤ -97 := by omega
    clear h1 h2 h3 h4 h5 h6
    go_enter Try.func12, Try.ntmps12
    go_wp2
    go_ret
    exact ⟨rfl, rfl⟩

theorem rank_any (x : Int) (w : World) :
    Calls Try.prog 8 #[.int .i8 x] w fun e w' => e = .returned (.int .i64 (rankV x)) ∧ w' = w := by
  by_cases h1 : -1 ≤ x ∧ x ≤ 1
  · rw [rankV_1 x h1]
    obtain ⟨a, b⟩ := h1
    go_enter Try.func8, Try.ntmps8
    go_wp2
    go_ret
    exact ⟨rfl, rfl⟩
  by_cases h2 : 2 ≤ x ∧ x ≤ 31
  · rw [rankV_0 x (.inl h2)]
    obtain ⟨a, b⟩ := h2
    clear h1
    go_enter Try.func8, Try.ntmps8
    go_wp2
    go_ret
    exact ⟨rfl, rfl⟩
  by_cases h3 : -32 ≤ x ∧ x ≤ -2
  · rw [rankV_0 x (.inr h3)]
    obtain ⟨a, b⟩ := h3
    clear h1 h2
    go_enter Try.func8, Try.ntmps8
    go_wp2
    go_ret
    exact ⟨rfl, rfl⟩
  by_cases h4 : 32 ≤ x ∧ x ≤ 95
  · rw [rankV_2 x (.inl h4)]
    obtain ⟨a, b⟩ := h4
    clear h1 h2 h3
    go_enter Try.func8, Try.ntmps8
    go_wp2
    go_ret
    exact ⟨rfl, rfl⟩
  by_cases h5 : -96 ≤ x ∧ x ≤ -33
  · rw [rankV_2 x (.inr h5)]
    obtain ⟨a, b⟩ := h5
    clear h1 h2 h3 h4
    go_enter Try.func8, Try.ntmps8
    go_wp2
    go_ret
    exact ⟨rfl, rfl⟩
  rw [rankV_3 x (by omega)]
  by_cases h6 : 96 ≤ x
  · clear h1 h2 h3 h4 h5
    go_enter Try.func8, Try.ntmps8
    go_wp2
    go_ret
    exact ⟨rfl, rfl⟩
  · have h7 : x ≤ -97 := by omega
    clear h1 h2 h3 h4 h5 h6
    go_enter Try.func8, Try.ntmps8
    go_wp2
    go_ret
    exact ⟨rfl, rfl⟩

theorem four (r : Int) (h0 : 0 ≤ r) (h3 : r ≤ 3) : r = 0 ∨ r = 1 ∨ r = 2 ∨ r = 3 := by omega

theorem distrust_any (r : Int) (h0 : 0 ≤ r) (h3 : r ≤ 3) (w : World) :
    Calls Try.prog 14 #[.int .i64 (trR r)] w fun e w' => e = .returned (.int .i64 r) ∧ w' = w := by
  rcases four r h0 h3 with rfl | rfl | rfl | rfl
  all_goals
    simp only [trR, reduceIte, Int.reduceEq]
    go_enter Try.func14, Try.ntmps14
    go_wp2
    go_ret
    exact ⟨rfl, rfl⟩
theorem rankOfTier_any (r : Int) (h0 : 0 ≤ r) (h3 : r ≤ 3) (w : World) :
    Calls Try.prog 11 #[.int .i64 (trR r)] w fun e w' => e = .returned (.int .i64 r) ∧ w' = w := by
  rcases four r h0 h3 with rfl | rfl | rfl | rfl
  all_goals
    simp only [trR, reduceIte, Int.reduceEq]
    go_enter Try.func11, Try.ntmps11
    go_wp2
    go_ret
    exact ⟨rfl, rfl⟩
theorem tierOfRank_any (r : Int) (h0 : 0 ≤ r) (h3 : r ≤ 3) (w : World) :
    Calls Try.prog 10 #[.int .i64 r] w fun e w' => e = .returned (.int .i64 (trR r)) ∧ w' = w := by
  rcases four r h0 h3 with rfl | rfl | rfl | rfl
  all_goals
    simp only [trR, reduceIte, Int.reduceEq]
    go_enter Try.func10, Try.ntmps10
    go_wp2
    go_ret
    exact ⟨rfl, rfl⟩
theorem worse_any (r s : Int) (h0 : 0 ≤ r) (h3 : r ≤ 3) (k0 : 0 ≤ s) (k3 : s ≤ 3) (w : World) :
    Calls Try.prog 13 #[.int .i64 (trR r), .int .i64 (trR s)] w fun e w' => e = .returned (.bool (decide (s < r))) ∧ w' = w := by
  go_enter Try.func13, Try.ntmps13
  go_wp2_with fail
  refine (distrust_any r h0 h3 _).mono ?_; rintro e w' ⟨rfl, rfl⟩
  go_wp2_with fail
  refine (distrust_any s k0 k3 _).mono ?_; rintro e w' ⟨rfl, rfl⟩
  go_wp2_with fail
  go_ret
  exact ⟨rfl, rfl⟩
end Go.Proofs.Qxb6630069a
