import Derived.Test.Qxb6630069aWorst
import Derived.RegionTactic
import Derived.ChangeAlike
namespace Go.Proofs.Qxb6630069a
open Go.RowKit Go.Maps

theorem bytes5_yes (a0 a1 : Option Addr) (l0 c0 l1 c1 : Nat) (h : l0 + l1 ≤ 1048576) (w : World) :
    Calls Try.prog 5 #[.slice a0 l0 c0, .slice a1 l1 c1] w fun e w' => e = .returned (.bool true) ∧ w' = w := by
  go_enter Try.func5, Try.ntmps5
  go_wp2
  go_ret
  exact ⟨rfl, rfl⟩
theorem bytes5_no (a0 a1 : Option Addr) (l0 c0 l1 c1 : Nat) (m0 : l0 ≤ maxLen) (m1 : l1 ≤ maxLen) (h : ¬ l0 + l1 ≤ 1048576) (w : World) :
    Calls Try.prog 5 #[.slice a0 l0 c0, .slice a1 l1 c1] w fun e w' => e = .returned (.bool false) ∧ w' = w := by
  unfold maxLen at m0 m1
  by_cases h1 : 1048576 < l0
  · go_enter Try.func5, Try.ntmps5
    go_wp2
    go_ret
    exact ⟨rfl, rfl⟩
  by_cases h2 : 1048576 < l1
  · go_enter Try.func5, Try.ntmps5
    go_wp2
    go_ret
    exact ⟨rfl, rfl⟩
  go_enter Try.func5, Try.ntmps5
  go_wp2
  go_ret
  exact ⟨rfl, rfl⟩
theorem minlen_any (l0 l1 n : Nat) (hn : (l0 < l1 ∧ n = l0) ∨ (¬ l0 < l1 ∧ n = l1)) (w : World) :
    Calls Try.prog 6 #[.int .i64 l0, .int .i64 l1] w fun e w' => e = .returned (.int .i64 n) ∧ w' = w := by
  rcases hn with ⟨h, rfl⟩ | ⟨h, rfl⟩
  · go_enter Try.func6, Try.ntmps6
    go_wp2
    go_ret
    exact ⟨rfl, rfl⟩
  · go_enter Try.func6, Try.ntmps6
    go_wp2
    go_ret
    exact ⟨rfl, rfl⟩

/-- Has one of the first k keys an element of rank q? -/
def sn (ks vs : List Int) (n : Nat) (q : Int) : Nat → Bool
  | 0 => false
  | k + 1 => sn ks vs n q k || rankV ((fill ks vs n (ks.getD k 0)).getD 0) == q
theorem sn_hit (ks vs : List Int) (n k : Nat) (c q : Int) (hc : fill ks vs n (ks.getD k 0) = some c) (hq : rankV c = q) : true = sn ks vs n q (k + 1) := by
  unfold sn; rw [hc]; simp [hq]
theorem sn_miss (ks vs : List Int) (n k : Nat) (c q : Int) (hc : fill ks vs n (ks.getD k 0) = some c) (hq : rankV c ≠ q) : sn ks vs n q k = sn ks vs n q (k + 1) := by
  conv => rhs; unfold sn
  rw [hc]; simp [hq]
theorem sn_true (ks vs : List Int) (n : Nat) (q : Int) : ∀ k, sn ks vs n q k = true → ∃ j, j < k ∧ rankV ((fill ks vs n (ks.getD j 0)).getD 0) = q
  | 0, h => by cases h
  | k + 1, h => by
    simp only [sn, Bool.or_eq_true, beq_iff_eq] at h
    rcases h with h | h
    · obtain ⟨j, hj, hq⟩ := sn_true ks vs n q k h
      exact ⟨j, by omega, hq⟩
    · exact ⟨k, by omega, h⟩
theorem sn_false (ks vs : List Int) (n : Nat) (q : Int) : ∀ k, sn ks vs n q k = false → ∀ j, j < k → rankV ((fill ks vs n (ks.getD j 0)).getD 0) ≠ q
  | 0, _, j, hj => by omega
  | k + 1, h, j, hj => by
    simp only [sn, Bool.or_eq_false_iff, beq_eq_false_iff_ne] at h
    by_cases e : j = k
    · subst e; exact h.2
    · exact sn_false ks vs n q k h.1 j (by omega)
theorem worst_of (ks vs : List Int) (n : Nat) (q : Int) (h0 : 0 ≤ q) (h3 : q ≤ 3) (hq : q = 0 ∨ sn ks vs n q n = true) (hno : ∀ p, q < p → p ≤ 3 → sn ks vs n p n = false) : Worst (fill ks vs n) q := by
  refine ⟨h0, h3, ?_, ?_⟩
  · intro x c hx
    obtain ⟨j, hj, hjx⟩ := fill_some ks vs n x c hx
    have hb := rankV_bd c
    by_cases hle : rankV c ≤ q
    · exact hle
    · have := sn_false ks vs n (rankV c) n (hno _ (by omega) hb.2) j hj
      rw [hjx, hx] at this
      exact absurd rfl this
  · rcases hq with hq | hq
    · exact .inl hq
    · obtain ⟨j, hj, hr⟩ := sn_true ks vs n q n hq
      obtain ⟨c, hc⟩ := fill_key ks vs n j hj
      rw [hc] at hr
      exact .inr ⟨_, c, hc, hr⟩

/-- What is known of the two slices. -/
structure Two (w : World) (b0 o0 b1 o1 n : Nat) (ks vs : List Int) : Prop where
  lt0 : b0 < w.heap.size
  lt1 : b1 < w.heap.size
  c0 : ∀ j, j < n → w.cell? ⟨b0, o0 + j, none⟩ = some (.int .i64 (ks.getD j 0))
  c1 : ∀ j, j < n → w.cell? ⟨b1, o1 + j, none⟩ = some (.int .i8 (vs.getD j 0))
  w0 : ∀ j, j < n → (Lit.int .i64 (ks.getD j 0)).wf = true
  w1 : ∀ j, j < n → (Lit.int .i8 (vs.getD j 0)).wf = true

set_option maxRecDepth 100000 in
set_option maxHeartbeats 1000000 in
theorem one_main (b0 o0 l0 c0 b1 o1 l1 c1 n : Nat) (ks vs : List Int) (hn : (l0 < l1 ∧ n = l0) ∨ (¬ l0 < l1 ∧ n = l1)) (h0 : l0 ≤ 65536) (h1 : l1 ≤ 65536) (hpos : 1 ≤ n) (w : World) (T : Two w b0 o0 b1 o1 n ks vs) :
    Calls Try.prog 3 #[.slice (some ⟨b0, o0, none⟩) l0 c0, .slice (some ⟨b1, o1, none⟩) l1 c1] w fun e w' => e = .returned (.bool true) ∧ Below w.heap.size w w' := by
  have HN : Hid ((l0 < l1 ∧ n = l0) ∨ (¬ l0 < l1 ∧ n = l1)) := hn
  have hn0 : n ≤ l0 := by omega
  have hn1 : n ≤ l1 := by omega
  clear hn
  have hmk := make27
  go_enter Try.func3, Try.ntmps3
  go_wp2_with (first
    | (go_at_call 5; refine (bytes5_yes _ _ _ _ _ _ (by omega) _).mono ?_; rintro e w' ⟨rfl, hw⟩; subst w')
    | (go_at_call 6; refine (minlen_any _ _ n HN.out _).mono ?_; rintro e w' ⟨rfl, hw⟩; subst w'))
  clear hmk
  go_loopw [7] (fun i wr => ∃ k : Nat, k ≤ n ∧ i = .int .i64 k ∧ (∃ D : DataW Unit, wr.ownsMap Try.prog 29 (plainElem Try.prog 28) w.heap.size k D ∧ Rep D (fill ks vs k)) ∧ Below w.heap.size w wr) (fun i _ => n - (intOf i).toNat)
  case atStart => exact ⟨0, Nat.zero_le _, rfl, ⟨.map [], World.ownsMap_made _ _ _ _, rep_empty⟩, (Below.refl _ _).alloc (Nat.le_refl _) _⟩
  case round =>
    obtain ⟨k, hk, rfl, ⟨D, hown, hrep⟩, hnx⟩ := hrel
    by_cases hlt : k < n
    · obtain ⟨x, hx⟩ : ∃ x, ks.getD k 0 = x := ⟨_, rfl⟩
      obtain ⟨y, hy⟩ : ∃ y, vs.getD k 0 = y := ⟨_, rfl⟩
      have g0 : wr.cell? ⟨b0, o0 + k, none⟩ = some (.int .i64 x) := by rw [← hx]; exact (hnx.cell (by exact T.lt0)).trans (T.c0 k hlt)
      have g1 : wr.cell? ⟨b1, o1 + k, none⟩ = some (.int .i8 y) := by rw [← hy]; exact (hnx.cell (by exact T.lt1)).trans (T.c1 k hlt)
      have wx : (Lit.int .i64 x).wf = true := by rw [← hx]; exact T.w0 k hlt
      have wy : (Lit.int .i8 y).wf = true := by rw [← hy]; exact T.w1 k hlt
      have hrep1 : Rep (D.put (.int .i64 x) (.lit (.int .i8 y))) (fill ks vs (k + 1)) := by unfold fill; rw [hx, hy]; exact hrep.put x y
      obtain ⟨w1, hrun, hown1, hg1⟩ := hown.drew.update law29 Try.underlying27 (by unfold maxLen; omega) (keyOf_int_mk Try.underlying29 wx) (plainElem_int Try.underlying28 wy)
      have hl0 : (k : Int) < l0 := by omega
      have hl1 : (k : Int) < l1 := by omega
      have HT : Hid (Two w b0 o0 b1 o1 n ks vs) := T
      clear T hx hy
      go_wp2_with fail
      go_region
      go_wp2
      go_roundw
      case rel => exact ⟨k + 1, by omega, by go_num, ⟨_, hown1, hrep1⟩, hnx.drew.grown hg1 hnx.size (fun j hj => by cases hj; exact Nat.le_refl _)⟩
      case measure => simp [intOf]; omega
    · have hkn : k = n := by omega
      subst hkn
      have hsz : Maps.size D ≠ 0 := by
        obtain ⟨c, hc⟩ := fill_key ks vs k 0 (by omega)
        exact hrep.size_ne hc
      go_wp2_with (go_at_call 7; refine (worst_any _ _ D _ hrep _ hown).mono ?_; rintro e w' ⟨t, rfl, _, ht, hgw⟩)
      obtain ⟨r, rfl, hW⟩ := ht hsz
      have hown2 := hown.kept hgw (by simp)
      have hnx2 := hnx.grown hgw hnx.size (fun j hj => by cases hj)
      have HT : Hid (Two w b0 o0 b1 o1 k ks vs) := T
      clear T hown hnx hgw ht
      go_loop [9, 10, 11, 12] (fun v9 v10 v11 i => ∃ m : Nat, m ≤ k ∧ i = .int .i64 m ∧ v9 = .bool (sn ks vs k 1 m) ∧ v10 = .bool (sn ks vs k 2 m) ∧ v11 = .bool (sn ks vs k 3 m)) (fun _ _ _ i => k - (intOf i).toNat)
      case atStart => exact ⟨0, Nat.zero_le _, rfl, rfl, rfl, rfl⟩
      case round =>
        obtain ⟨m, hm, rfl, rfl, rfl, rfl⟩ := hrel
        by_cases hlt2 : m < k
        · obtain ⟨x, hx⟩ : ∃ x, ks.getD m 0 = x := ⟨_, rfl⟩
          have g0 : w'.cell? ⟨b0, o0 + m, none⟩ = some (.int .i64 x) := by rw [← hx]; exact (hnx2.cell (by exact HT.out.lt0)).trans (HT.out.c0 m hlt2)
          have wx : (Lit.int .i64 x).wf = true := by rw [← hx]; exact HT.out.w0 m hlt2
          have hl0 : (m : Int) < l0 := by omega
          have HX : Hid (ks.getD m 0 = x) := hx
          clear hx
          go_wp2_with (at_lookup; refine wpList_lookup_own_int _ rfl _ _ 27 rfl 29 28 .i8 law29 Try.underlying27 Try.underlying28 (zero28 _) w.heap.size k D rfl hown2 _ _ rfl (keyOf_int_mk Try.underlying29 wx) ?_; intro c hat hwc)
          have HC : Hid (fill ks vs k (ks.getD m 0) = some c) := by
            obtain ⟨c', hc'⟩ := fill_key ks vs k m hlt2
            have e := hrep.2.2 _ c' hc' (.lit (.int .i8 0))
            rw [HX.out, hat] at e
            cases e; exact hc'
          clear hat
          have hb := rankV_bd c
          rcases four (rankV c) hb.1 hb.2 with hq | hq | hq | hq
          all_goals
            clear hb
            go_wp2_with (go_at_call 8; refine (rank_any _ _).mono ?_; rintro e w' ⟨rfl, rfl⟩)
            go_round
            case rel => exact ⟨m + 1, by omega, by go_num, congrArg Value.bool (by first | exact sn_hit ks vs k m c _ HC.out hq | exact sn_miss ks vs k m c _ HC.out (by omega)), congrArg Value.bool (by first | exact sn_hit ks vs k m c _ HC.out hq | exact sn_miss ks vs k m c _ HC.out (by omega)), congrArg Value.bool (by first | exact sn_hit ks vs k m c _ HC.out hq | exact sn_miss ks vs k m c _ HC.out (by omega))⟩
            case measure => simp [intOf]; omega
        · have hmk : m = k := by omega
          subst hmk
          cases e3 : sn ks vs m 3 m
          · cases e2 : sn ks vs m 2 m
            · cases e1 : sn ks vs m 1 m
              · have hr : trR r = 2 := by rw [hW.unique (worst_of ks vs m 0 (by omega) (by omega) (.inl rfl) (fun p h1 h2 => by rcases four p (by omega) h2 with h | h | h | h <;> first | omega | (rw [h]; assumption)))]; rfl
                go_wp2
                go_ret
                exact ⟨rfl, hnx2⟩
              · have hr : trR r = 0 := by rw [hW.unique (worst_of ks vs m 1 (by omega) (by omega) (.inr e1) (fun p h1 h2 => by rcases four p (by omega) h2 with h | h | h | h <;> first | omega | (rw [h]; assumption)))]; rfl
                go_wp2
                go_ret
                exact ⟨rfl, hnx2⟩
            · have hr : trR r = 32 := by rw [hW.unique (worst_of ks vs m 2 (by omega) (by omega) (.inr e2) (fun p h1 h2 => by rcases four p (by omega) h2 with h | h | h | h <;> first | omega | (rw [h]; assumption)))]; rfl
              go_wp2
              go_ret
              exact ⟨rfl, hnx2⟩
          · have hr : trR r = 96 := by rw [hW.unique (worst_of ks vs m 3 (by omega) (by omega) (.inr e3) (fun p h1 h2 => by omega))]; rfl
            go_wp2
            go_ret
            exact ⟨rfl, hnx2⟩

set_option maxRecDepth 100000 in
set_option maxHeartbeats 1000000 in
/-- One of the two is empty. -/
theorem one_empty (a0 a1 : Option Addr) (l0 c0 l1 c1 : Nat) (h0 : l0 ≤ 65536) (h1 : l1 ≤ 65536) (hz : l0 = 0 ∨ l1 = 0) (w : World) :
    Calls Try.prog 3 #[.slice a0 l0 c0, .slice a1 l1 c1] w fun e w' => e = .returned (.bool true) ∧ Below w.heap.size w w' := by
  have HN : Hid ((l0 < l1 ∧ 0 = l0) ∨ (¬ l0 < l1 ∧ 0 = l1)) := by show _ ∨ _; omega
  clear hz
  have hmk := make27
  go_enter Try.func3, Try.ntmps3
  go_wp2_with (first
    | (go_at_call 5; refine (bytes5_yes _ _ _ _ _ _ (by omega) _).mono ?_; rintro e w' ⟨rfl, hw⟩; subst w')
    | (go_at_call 6; refine (minlen_any _ _ 0 HN.out _).mono ?_; rintro e w' ⟨rfl, hw⟩; subst w'))
  refine wp_loop_rounds 1 ?_
  rw [rounds_succ]
  go_wp2_with (go_at_call 7; refine (worst_any _ _ (.map [] : DataW Unit) _ rep_empty _ (World.ownsMap_made _ _ _ _)).mono ?_; rintro e w' ⟨t, rfl, ht, _, hgw⟩; have ht0 := ht rfl)
  subst ht0
  refine wp_loop_rounds 1 ?_
  rw [rounds_succ]
  go_wp2
  go_ret
  exact ⟨rfl, ((Below.refl _ _).alloc (Nat.le_refl _) _).grown hgw (by simp) (fun j hj => by cases hj)⟩
end Go.Proofs.Qxb6630069a
