import Derived.Test.Qxb6630069aLawOneAll
namespace Go.Proofs.Qxb6630069a
open Go.RowKit Go.Maps

theorem bytes9_yes (a0 a1 : Option Addr) (l0 c0 l1 c1 : Nat) (k x : Int) (h : l0 + l1 ≤ 1048576) (w : World) :
    Calls Try.prog 9 #[.slice a0 l0 c0, .slice a1 l1 c1, .int .i64 k, .int .i8 x] w fun e w' => e = .returned (.bool true) ∧ w' = w := by
  go_enter Try.func9, Try.ntmps9
  go_wp2
  go_ret
  exact ⟨rfl, rfl⟩
theorem bytes9_no (a0 a1 : Option Addr) (l0 c0 l1 c1 : Nat) (k x : Int) (m0 : l0 ≤ maxLen) (m1 : l1 ≤ maxLen) (h : ¬ l0 + l1 ≤ 1048576) (w : World) :
    Calls Try.prog 9 #[.slice a0 l0 c0, .slice a1 l1 c1, .int .i64 k, .int .i8 x] w fun e w' => e = .returned (.bool false) ∧ w' = w := by
  unfold maxLen at m0 m1
  by_cases h1 : 1048576 < l0
  · go_enter Try.func9, Try.ntmps9
    go_wp2
    go_ret
    exact ⟨rfl, rfl⟩
  by_cases h2 : 1048576 < l1
  · go_enter Try.func9, Try.ntmps9
    go_wp2
    go_ret
    exact ⟨rfl, rfl⟩
  go_enter Try.func9, Try.ntmps9
  go_wp2
  go_ret
  exact ⟨rfl, rfl⟩

set_option maxRecDepth 100000 in
set_option maxHeartbeats 1000000 in
theorem two_main (b0 o0 l0 c0 b1 o1 l1 c1 n : Nat) (ks vs : List Int) (kk xx : Int) (wk : (Lit.int .i64 kk).wf = true) (wxx : (Lit.int .i8 xx).wf = true)
    (hn : (l0 < l1 ∧ n = l0) ∨ (¬ l0 < l1 ∧ n = l1)) (h0 : l0 ≤ 65536) (h1 : l1 ≤ 65536) (hpos : 1 ≤ n) (w : World) (T : Two w b0 o0 b1 o1 n ks vs) :
    Calls Try.prog 4 #[.slice (some ⟨b0, o0, none⟩) l0 c0, .slice (some ⟨b1, o1, none⟩) l1 c1, .int .i64 kk, .int .i8 xx] w fun e w' => e = .returned (.bool true) ∧ Below w.heap.size w w' := by
  have HN : Hid ((l0 < l1 ∧ n = l0) ∨ (¬ l0 < l1 ∧ n = l1)) := hn
  have hn0 : n ≤ l0 := by omega
  have hn1 : n ≤ l1 := by omega
  clear hn
  have hmk := make27
  go_enter Try.func4, Try.ntmps4
  go_wp2_with (first
    | (go_at_call 9; refine (bytes9_yes _ _ _ _ _ _ _ _ (by omega) _).mono ?_; rintro e w' ⟨rfl, hw⟩; subst w')
    | (go_at_call 6; refine (minlen_any _ _ n HN.out _).mono ?_; rintro e w' ⟨rfl, hw⟩; subst w'))
  clear hmk
  go_loopw [12] (fun i wr => ∃ k : Nat, k ≤ n ∧ i = .int .i64 k ∧ (∃ D : DataW Unit, wr.ownsMap Try.prog 29 (plainElem Try.prog 28) w.heap.size k D ∧ Rep D (fill ks vs k)) ∧ (∃ D : DataW Unit, wr.ownsMap Try.prog 29 (plainElem Try.prog 28) (w.heap.size + 1) k D ∧ Rep D (fill ks vs k)) ∧ Below w.heap.size w wr) (fun i _ => n - (intOf i).toNat)
  case atStart =>
    refine ⟨0, Nat.zero_le _, rfl, ⟨.map [], (World.ownsMap_made _ _ _ _).alloc _, rep_empty⟩, ⟨.map [], ?_, rep_empty⟩, ((Below.refl _ _).alloc (Nat.le_refl _) _).alloc (by simp) _⟩
    have := World.ownsMap_made (H := Unit) (w.alloc (.map #[] 0)) Try.prog 29 (plainElem Try.prog 28)
    simpa using this
  case round =>
    obtain ⟨k, hk, rfl, ⟨D, hown, hrep⟩, ⟨E, hownE, hrepE⟩, hnx⟩ := hrel
    have hsz := hownE.lt
    by_cases hlt : k < n
    · obtain ⟨x, hx⟩ : ∃ x, ks.getD k 0 = x := ⟨_, rfl⟩
      obtain ⟨y, hy⟩ : ∃ y, vs.getD k 0 = y := ⟨_, rfl⟩
      have g0 : wr.cell? ⟨b0, o0 + k, none⟩ = some (.int .i64 x) := by rw [← hx]; exact (hnx.cell (by exact T.lt0)).trans (T.c0 k hlt)
      have g1 : wr.cell? ⟨b1, o1 + k, none⟩ = some (.int .i8 y) := by rw [← hy]; exact (hnx.cell (by exact T.lt1)).trans (T.c1 k hlt)
      have wx : (Lit.int .i64 x).wf = true := by rw [← hx]; exact T.w0 k hlt
      have wy : (Lit.int .i8 y).wf = true := by rw [← hy]; exact T.w1 k hlt
      have hrep1 : Rep (D.put (.int .i64 x) (.lit (.int .i8 y))) (fill ks vs (k + 1)) := by unfold fill; rw [hx, hy]; exact hrep.put x y
      have hrepE1 : Rep (E.put (.int .i64 x) (.lit (.int .i8 y))) (fill ks vs (k + 1)) := by unfold fill; rw [hx, hy]; exact hrepE.put x y
      obtain ⟨w1, hrun, hown1, hg1⟩ := hown.drew.update law29 Try.underlying27 (by unfold maxLen; omega) (keyOf_int_mk Try.underlying29 wx) (plainElem_int Try.underlying28 wy)
      have hnx1 : Below w.heap.size w w1 := hnx.drew.grown hg1 hnx.size (fun j hj => by cases hj; exact Nat.le_refl _)
      have hownE1 := hownE.drew.kept hg1 (by simp)
      have k0 : w1.cell? ⟨b0, o0 + k, none⟩ = some (.int .i64 x) := by rw [← hx]; exact (hnx1.cell (by exact T.lt0)).trans (T.c0 k hlt)
      have k1 : w1.cell? ⟨b1, o1 + k, none⟩ = some (.int .i8 y) := by rw [← hy]; exact (hnx1.cell (by exact T.lt1)).trans (T.c1 k hlt)
      obtain ⟨w2, hrun2, hownE2, hg2⟩ := hownE1.drew.update law29 Try.underlying27 (by unfold maxLen; omega) (keyOf_int_mk Try.underlying29 wx) (plainElem_int Try.underlying28 wy)
      have hnx2 : Below w.heap.size w w2 := hnx1.drew.grown hg2 hnx1.size (fun j hj => by cases hj; exact Nat.le_succ _)
      have hown2 := hown1.drew.kept hg2 (by simp)
      have hl0 : (k : Int) < l0 := by omega
      have hl1 : (k : Int) < l1 := by omega
      clear T hx hy hown hownE hnx hg1 hownE1 hown1 hnx1 hg2
      go_wp2_with fail
      go_region
      go_wp2
      go_region
      go_wp2
      go_roundw
      case rel => exact ⟨k + 1, by omega, by go_num, ⟨_, hown2, hrep1⟩, ⟨_, hownE2, hrepE1⟩, hnx2⟩
      case measure => simp [intOf]; omega
    · have hkn : k = n := by omega
      subst hkn
      have hsD : Maps.size D ≠ 0 := by
        obtain ⟨c, hc⟩ := fill_key ks vs k 0 (by omega)
        exact hrep.size_ne hc
      clear T
      have hhas := hrep.2.1 kk
      cases hf : fill ks vs k kk with
      | some c =>
        rw [hf] at hhas
        go_wp2_with (at_lookup; refine wpList_lookup_own_ok_int _ rfl _ _ 27 rfl 29 28 .i8 law29 Try.underlying27 Try.underlying28 (zero28 _) w.heap.size k D rfl hown _ _ rfl (keyOf_int_mk Try.underlying29 wk) ?_; intro c hat hwc)
        go_ret
        exact ⟨rfl, hnx⟩
      | none =>
        rw [hf] at hhas
        have hrep2 := hrepE.put kk xx
        have hsE := hrep2.size_ne (upd_same (fill ks vs k) kk xx)
        have HF : Hid (fill ks vs k kk = none) := hf
        clear hf
        go_wp2_with (first
          | (at_lookup; refine wpList_lookup_own_ok_int _ rfl _ _ 27 rfl 29 28 .i8 law29 Try.underlying27 Try.underlying28 (zero28 _) w.heap.size k D rfl hown _ _ rfl (keyOf_int_mk Try.underlying29 wk) ?_; intro c hat hwc)
          | (at_mapUpdate; refine wpList_mapUpdate_own _ rfl _ _ _ 27 rfl 29 28 law29 Try.underlying27 _ (w.heap.size + 1) k E rfl hownE (by unfold maxLen; omega) _ _ _ rfl rfl (keyOf_int_mk Try.underlying29 wk) _ [] (plainElem_int Try.underlying28 wxx) ?_; intro w1 hownE1 hg1))
        have hown1 := hown.kept hg1 (by simp)
        have hnx1 : Below w.heap.size w w1 := hnx.grown hg1 hnx.size (fun j hj => by cases hj; exact Nat.le_succ _)
        refine (worst_any _ _ D _ hrep _ hown1).mono ?_; rintro e w2 ⟨t, rfl, _, ht, hg2⟩
        obtain ⟨r, hr, hW⟩ := ht hsD
        rw [hr]
        clear hr ht
        have hownE2 := hownE1.kept hg2 (by simp)
        have hnx2 := hnx1.grown hg2 hnx1.size (fun j hj => by cases hj)
        go_wp2_with fail
        refine (worst_any _ _ _ _ hrep2 _ hownE2).mono ?_; rintro e w3 ⟨t, rfl, _, ht, hg3⟩
        obtain ⟨r2, hr, hW2⟩ := ht hsE
        rw [hr]
        clear hr ht
        have hnx3 := hnx2.grown hg3 hnx2.size (fun j hj => by cases hj)
        have hu := hW2.unique (hW.upd kk xx HF.out)
        have hb := rankV_bd xx
        have hb0 := hW.1
        have hb3 := hW.2.1
        clear hat hrep hrepE hown hownE hnx hrep2 hsE hsD hownE1 hown1 hnx1 hg1 hg2 hnx2 hg3 hownE2 hW hW2
        by_cases hc : r < rankV xx
        · rw [if_pos hc] at hu
          subst hu
          go_wp2_with (first
            | (go_at_call 8; refine (rank_any _ _).mono ?_; rintro e w' ⟨rfl, rfl⟩)
            | (go_at_call 11; refine (rankOfTier_any r hb0 hb3 _).mono ?_; rintro e w' ⟨rfl, rfl⟩)
            | (go_at_call 10; refine (tierOfRank_any _ hb.1 hb.2 _).mono ?_; rintro e w' ⟨rfl, rfl⟩))
          go_ret
          exact ⟨rfl, hnx3⟩
        · rw [if_neg hc] at hu
          subst hu
          go_wp2_with (first
            | (go_at_call 8; refine (rank_any _ _).mono ?_; rintro e w' ⟨rfl, rfl⟩)
            | (go_at_call 11; refine (rankOfTier_any _ hb0 hb3 _).mono ?_; rintro e w' ⟨rfl, rfl⟩)
            | (go_at_call 10; refine (tierOfRank_any _ hb0 hb3 _).mono ?_; rintro e w' ⟨rfl, rfl⟩))
          go_ret
          exact ⟨rfl, hnx3⟩

set_option maxRecDepth 100000 in
set_option maxHeartbeats 1000000 in
theorem two_empty (a0 a1 : Option Addr) (l0 c0 l1 c1 : Nat) (kk xx : Int) (wk : (Lit.int .i64 kk).wf = true) (wxx : (Lit.int .i8 xx).wf = true) (h0 : l0 ≤ 65536) (h1 : l1 ≤ 65536) (hz : l0 = 0 ∨ l1 = 0) (w : World) :
    Calls Try.prog 4 #[.slice a0 l0 c0, .slice a1 l1 c1, .int .i64 kk, .int .i8 xx] w fun e w' => e = .returned (.bool true) ∧ Below w.heap.size w w' := by
  have HN : Hid ((l0 < l1 ∧ 0 = l0) ∨ (¬ l0 < l1 ∧ 0 = l1)) := by show _ ∨ _; omega
  clear hz
  have hmk := make27
  have hown : ((w.alloc (.map #[] 0)).alloc (.map #[] 0)).ownsMap (H := Unit) Try.prog 29 (plainElem Try.prog 28) w.heap.size 0 (.map []) := (World.ownsMap_made _ _ _ _).alloc _
  have hownE : ((w.alloc (.map #[] 0)).alloc (.map #[] 0)).ownsMap (H := Unit) Try.prog 29 (plainElem Try.prog 28) (w.heap.size + 1) 0 (.map []) := by
    have := World.ownsMap_made (H := Unit) (w.alloc (.map #[] 0)) Try.prog 29 (plainElem Try.prog 28)
    simpa using this
  have hnx : Below w.heap.size w ((w.alloc (.map #[] 0)).alloc (.map #[] 0)) := ((Below.refl _ _).alloc (Nat.le_refl _) _).alloc (by simp) _
  have hhas : Maps.has (.map [] : DataW Unit) (.int .i64 kk) = false := rfl
  have hrep2 := (rep_empty (H := Unit)).put kk xx
  have hsE := hrep2.size_ne (upd_same (fun _ => none) kk xx)
  go_enter Try.func4, Try.ntmps4
  go_wp2_with (first
    | (go_at_call 9; refine (bytes9_yes _ _ _ _ _ _ _ _ (by omega) _).mono ?_; rintro e w' ⟨rfl, hw⟩; subst w')
    | (go_at_call 6; refine (minlen_any _ _ 0 HN.out _).mono ?_; rintro e w' ⟨rfl, hw⟩; subst w'))
  refine wp_loop_rounds 1 ?_
  rw [rounds_succ]
  go_wp2_with (first
    | (at_lookup; refine wpList_lookup_own_ok_int _ rfl _ _ 27 rfl 29 28 .i8 law29 Try.underlying27 Try.underlying28 (zero28 _) w.heap.size 0 _ rfl hown _ _ rfl (keyOf_int_mk Try.underlying29 wk) ?_; intro c hat hwc)
    | (at_mapUpdate; refine wpList_mapUpdate_own _ rfl _ _ _ 27 rfl 29 28 law29 Try.underlying27 _ (w.heap.size + 1) 0 _ rfl hownE (by unfold maxLen; omega) _ _ _ rfl rfl (keyOf_int_mk Try.underlying29 wk) _ [] (plainElem_int Try.underlying28 wxx) ?_; intro w1 hownE1 hg1))
  have hown1 := hown.kept hg1 (by simp)
  have hnx1 : Below w.heap.size w w1 := hnx.grown hg1 hnx.size (fun j hj => by cases hj; exact Nat.le_succ _)
  refine (worst_any _ _ _ _ rep_empty _ hown1).mono ?_; rintro e w2 ⟨t, rfl, ht, _, hg2⟩
  have hr := ht rfl
  rw [hr]
  clear hr ht
  have hownE2 := hownE1.kept hg2 (by simp)
  have hnx2 := hnx1.grown hg2 hnx1.size (fun j hj => by cases hj)
  go_wp2_with fail
  refine (worst_any _ _ _ _ hrep2 _ hownE2).mono ?_; rintro e w3 ⟨t, rfl, _, ht, hg3⟩
  obtain ⟨r2, hr, hW2⟩ := ht hsE
  have hu := hW2.unique (Worst.single (fun _ => rfl) kk xx)
  rw [hr, hu]
  clear hr ht hu
  have hnx3 := hnx2.grown hg3 hnx2.size (fun j hj => by cases hj)
  have hb := rankV_bd xx
  clear hat hown hownE hnx hrep2 hsE hownE1 hown1 hnx1 hg1 hg2 hnx2 hg3 hownE2 hW2
  go_wp2_with (first
    | (go_at_call 8; refine (rank_any _ _).mono ?_; rintro e w' ⟨rfl, rfl⟩)
    | (go_at_call 10; refine (tierOfRank_any _ hb.1 hb.2 _).mono ?_; rintro e w' ⟨rfl, rfl⟩))
  go_ret
  exact ⟨rfl, hnx3⟩

set_option maxHeartbeats 400000 in
theorem two_walk (a0 : Option Addr) (len0 cap0 : Nat) (z0 : List Int) (a1 : Option Addr) (len1 cap1 : Nat) (z1 : List Int) (a2 a3 : Int) (w : World) (w0 : Row .i64 w a0 len0 cap0 z0) (w1 : Row .i8 w a1 len1 cap1 z1) (w2 : (Lit.int .i64 a2).wf = true) (w3 : (Lit.int .i8 a3).wf = true) :
    Calls Try.prog 4 #[.slice a0 len0 cap0, .slice a1 len1 cap1, .int .i64 a2, .int .i8 a3] w fun e w' => e = .returned (.bool true) ∧ Below w.heap.size w w' := by
  have m0 := w0.le
  have m1 := w1.le
  by_cases hb : len0 + len1 ≤ 1048576
  · by_cases h0 : 65536 < len0
    · clear w0 w1 m0 m1
      go_enter Try.func4, Try.ntmps4
      go_wp2_with (go_at_call 9; refine (bytes9_yes _ _ _ _ _ _ _ _ hb _).mono ?_; rintro e w' ⟨rfl, hw⟩; subst w')
      go_ret
      exact ⟨rfl, Below.refl _ _⟩
    by_cases h1 : 65536 < len1
    · clear w0 w1 m0 m1
      go_enter Try.func4, Try.ntmps4
      go_wp2_with (go_at_call 9; refine (bytes9_yes _ _ _ _ _ _ _ _ hb _).mono ?_; rintro e w' ⟨rfl, hw⟩; subst w')
      go_ret
      exact ⟨rfl, Below.refl _ _⟩
    by_cases hz : len0 = 0 ∨ len1 = 0
    · exact two_empty a0 a1 len0 cap0 len1 cap1 a2 a3 w2 w3 (by omega) (by omega) hz w
    · obtain ⟨n, hn⟩ : ∃ n, (len0 < len1 ∧ n = len0) ∨ (¬ len0 < len1 ∧ n = len1) := by
        by_cases h : len0 < len1
        · exact ⟨_, .inl ⟨h, rfl⟩⟩
        · exact ⟨_, .inr ⟨h, rfl⟩⟩
      obtain ⟨b0, o0, b1, o1, rfl, rfl, T⟩ := two_of w0 w1 (n := n) (by omega) (by omega) (by omega)
      exact two_main b0 o0 len0 cap0 b1 o1 len1 cap1 n z0 z1 a2 a3 w2 w3 hn (by omega) (by omega) (by omega) w T
  · clear w0 w1
    go_enter Try.func4, Try.ntmps4
    go_wp2_with (go_at_call 9; refine (bytes9_no _ _ _ _ _ _ _ _ m0 m1 hb _).mono ?_; rintro e w' ⟨rfl, hw⟩; subst w')
    go_ret
    exact ⟨rfl, Below.refl _ _⟩
end Go.Proofs.Qxb6630069a
