import Derived.Test.Qxb6630095aGuardB
namespace Go.Proofs.Qxb6630095a
open Go.RowKit
open Go.Lib (compareBytes)

theorem Lab.later {w w' : World} {a : Option Addr} {l : Nat} {xs : List (ByteArray × ByteArray)} (h : Lab w a l xs) (hb : Below w.heap.size w w') : Lab w' a l xs := by
  obtain ⟨h1, h2, h3⟩ := h
  refine ⟨h1, h2, fun hl => ?_⟩
  obtain ⟨b, o, e, hc⟩ := h3 hl
  refine ⟨b, o, e, fun j hj => ?_⟩
  have c := hc j hj
  have hlt : b < w.heap.size := World.block_lt_of_cell? _ _ c.1
  exact ⟨(hb.cell (by exact hlt)).trans c.1, (hb.cell (by exact hlt)).trans c.2⟩
theorem below_draws (w : World) (n : Nat) : Below w.heap.size w (w.drewN n) := by
  induction n with
  | zero => exact Below.refl _ _
  | succ n ih => exact ih.drew

set_option maxRecDepth 100000 in
set_option maxHeartbeats 1000000 in
theorem two_walk (a b c : Option Addr) (la ca lb cb lc cc : Nat) (ps xs ys : List (ByteArray × ByteArray)) (w : World) (hA : Lab w a la ps) (hB : Lab w b lb xs) (hC : Lab w c lc ys) (ma : la ≤ maxLen) (mb : lb ≤ maxLen) (mc : lc ≤ maxLen) :
    Calls Try.prog 4 #[.slice a la ca, .slice b lb cb, .slice c lc cc] w fun e w' => e = .returned (.bool true) ∧ Below w.heap.size w w' := by
  have HA : Hid (Lab w a la ps) := hA
  have HB : Hid (Lab w b lb xs) := hB
  have HC : Hid (Lab w c lc ys) := hC
  clear hA hB hC
  go_enter Try.func4, Try.ntmps4
  go_wp2_with fail
  refine (guard12 a b c la ca lb cb lc cc ps xs ys _ HA.out HB.out HC.out ma mb mc).mono ?_
  rintro e w' ⟨⟨r, rfl⟩, hw⟩
  subst hw
  cases r with
  | false =>
    go_wp2
    go_ret
    exact ⟨rfl, Below.refl _ _⟩
  | true =>
    by_cases t1 : 65536 < la
    · go_wp2
      go_ret
      exact ⟨rfl, Below.refl _ _⟩
    by_cases t2 : 65536 < lb
    · go_wp2
      go_ret
      exact ⟨rfl, Below.refl _ _⟩
    by_cases t3 : 65536 < lc
    · go_wp2
      go_ret
      exact ⟨rfl, Below.refl _ _⟩
    go_wp2_with fail
    refine (guard6 a b c la ca lb cb lc cc ps xs ys _ HA.out HB.out HC.out (by omega) (by omega) (by omega)).mono ?_
    rintro e w1 ⟨⟨r, rfl⟩, n, hw⟩
    have B1 : Below w.heap.size w w1 := by rw [hw]; exact below_draws w n
    clear hw
    cases r with
    | false =>
      go_wp2
      go_ret
      exact ⟨rfl, B1⟩
    | true =>
      have HA1 : Hid (Lab w1 a la ps) := HA.out.later B1
      have HB1 : Hid (Lab w1 b lb xs) := HB.out.later B1
      have HC1 : Hid (Lab w1 c lc ys) := HC.out.later B1
      clear HA HB HC
      go_wp2_with fail
      refine (labels_any a la ca ps _ HA1.out (by omega)).mono ?_
      rintro e w2 ⟨ap, rfl, hP, C2⟩
      have B2 : Below w.heap.size w w2 := B1.trans (C2.mono B1.size)
      have HA2 : Hid (Lab w2 a la ps) := HA1.out.later C2
      have HB2 : Hid (Lab w2 b lb xs) := HB1.out.later C2
      have HC2 : Hid (Lab w2 c lc ys) := HC1.out.later C2
      have HP2 : Hid (Lab w2 ap la ps) := hP
      clear HA1 HB1 HC1 hP C2 B1
      go_wp2_with fail
      refine (labels_any b lb cb xs _ HB2.out (by omega)).mono ?_
      rintro e w3 ⟨ax, rfl, hX, C3⟩
      have B3 : Below w.heap.size w w3 := B2.trans (C3.mono B2.size)
      have HA3 : Hid (Lab w3 a la ps) := HA2.out.later C3
      have HB3 : Hid (Lab w3 b lb xs) := HB2.out.later C3
      have HC3 : Hid (Lab w3 c lc ys) := HC2.out.later C3
      have HP3 : Hid (Lab w3 ap la ps) := HP2.out.later C3
      have HX3 : Hid (Lab w3 ax lb xs) := hX
      clear HA2 HB2 HC2 HP2 hX C3 B2
      go_wp2_with fail
      refine (labels_any c lc cc ys _ HC3.out (by omega)).mono ?_
      rintro e w4 ⟨ay, rfl, hY, C4⟩
      have B4 : Below w.heap.size w w4 := B3.trans (C4.mono B3.size)
      have HA4 : Hid (Lab w4 a la ps) := HA3.out.later C4
      have HB4 : Hid (Lab w4 b lb xs) := HB3.out.later C4
      have HC4 : Hid (Lab w4 c lc ys) := HC3.out.later C4
      have HP4 : Hid (Lab w4 ap la ps) := HP3.out.later C4
      have HX4 : Hid (Lab w4 ax lb xs) := HX3.out.later C4
      have HY4 : Hid (Lab w4 ay lc ys) := hY
      clear HA3 HB3 HC3 HP3 HX3 hY C4 B3
      go_wp2_with fail
      refine (concat_any a b la ca lb cb ps xs _ HA4.out HB4.out (by omega) (by omega)).mono ?_
      rintro e w5 ⟨rfl, hQ, C5⟩
      have B5 : Below w.heap.size w w5 := B4.trans (C5.mono B4.size)
      have HA5 : Hid (Lab w5 a la ps) := HA4.out.later C5
      have HC5 : Hid (Lab w5 c lc ys) := HC4.out.later C5
      have HP5 : Hid (Lab w5 ap la ps) := HP4.out.later C5
      have HX5 : Hid (Lab w5 ax lb xs) := HX4.out.later C5
      have HY5 : Hid (Lab w5 ay lc ys) := HY4.out.later C5
      have HQ5 : Hid (Lab w5 (some ⟨w4.heap.size, 0, none⟩) (la + lb) (ps ++ xs)) := hQ
      clear HA4 HB4 HC4 HP4 HX4 HY4 hQ C5 B4
      go_wp2_with fail
      refine (concat_any a c la ca lc cc ps ys _ HA5.out HC5.out (by omega) (by omega)).mono ?_
      rintro e w6 ⟨rfl, hR, C6⟩
      have B6 : Below w.heap.size w w6 := B5.trans (C6.mono B5.size)
      have HP6 : Hid (Lab w6 ap la ps) := HP5.out.later C6
      have HX6 : Hid (Lab w6 ax lb xs) := HX5.out.later C6
      have HY6 : Hid (Lab w6 ay lc ys) := HY5.out.later C6
      have HQ6 : Hid (Lab w6 (some ⟨w4.heap.size, 0, none⟩) (la + lb) (ps ++ xs)) := HQ5.out.later C6
      have HR6 : Hid (Lab w6 (some ⟨w5.heap.size, 0, none⟩) (la + lc) (ps ++ ys)) := hR
      clear HA5 HC5 HP5 HX5 HY5 HQ5 hR C6 B5
      go_wp2_with fail
      refine (compare_any _ _ (la + lb) (la + lb) (la + lc) (la + lc) _ _ _ HQ6.out HR6.out (by unfold maxLen; omega) (by unfold maxLen; omega)).mono ?_
      rintro e w7 ⟨rfl, n7, hw⟩
      rw [cmpLab_prefix]
      have C7 : Below w6.heap.size w6 w7 := by rw [hw]; exact below_draws w6 n7
      have B7 : Below w.heap.size w w7 := B6.trans (C7.mono B6.size)
      have HP7 : Hid (Lab w7 ap la ps) := HP6.out.later C7
      have HX7 : Hid (Lab w7 ax lb xs) := HX6.out.later C7
      have HY7 : Hid (Lab w7 ay lc ys) := HY6.out.later C7
      have HQ7 : Hid (Lab w7 (some ⟨w4.heap.size, 0, none⟩) (la + lb) (ps ++ xs)) := HQ6.out.later C7
      clear HP6 HX6 HY6 HQ6 HR6 C7 hw B6
      go_wp2_with fail
      refine (compare_any _ _ lb lb lc lc _ _ _ HX7.out HY7.out (by unfold maxLen; omega) (by unfold maxLen; omega)).mono ?_
      rintro e w8 ⟨rfl, n8, hw⟩
      have C8 : Below w7.heap.size w7 w8 := by rw [hw]; exact below_draws w7 n8
      have B8 : Below w.heap.size w w8 := B7.trans (C8.mono B7.size)
      have HP8 : Hid (Lab w8 ap la ps) := HP7.out.later C8
      have HQ8 : Hid (Lab w8 (some ⟨w4.heap.size, 0, none⟩) (la + lb) (ps ++ xs)) := HQ7.out.later C8
      have HL : Hid (xs.length = lb) := HX7.out.1
      clear HP7 HX7 HY7 HQ7 C8 hw B7
      go_wp2_with fail
      refine (compare_any _ _ la la (la + lb) (la + lb) _ _ _ HP8.out HQ8.out (by unfold maxLen; omega) (by unfold maxLen; omega)).mono ?_
      rintro e w9 ⟨rfl, n9, hw⟩
      rw [cmpLab_short, HL.out]
      have C9 : Below w8.heap.size w8 w9 := by rw [hw]; exact below_draws w8 n9
      have B9 : Below w.heap.size w w9 := B8.trans (C9.mono B8.size)
      have HP9 : Hid (Lab w9 ap la ps) := HP8.out.later C9
      have HQ9 : Hid (Lab w9 (some ⟨w4.heap.size, 0, none⟩) (la + lb) (ps ++ xs)) := HQ8.out.later C9
      clear HP8 HQ8 C9 hw B8
      go_wp2_with fail
      refine (compare_any _ _ (la + lb) (la + lb) la la _ _ _ HQ9.out HP9.out (by unfold maxLen; omega) (by unfold maxLen; omega)).mono ?_
      rintro e w10 ⟨rfl, n10, hw⟩
      rw [cmpLab_long, HL.out]
      have B10 : Below w.heap.size w w10 := by rw [hw]; exact B9.trans ((below_draws w9 n10).mono B9.size)
      clear HP9 HQ9 hw B9
      go_wp2
      go_ret
      exact ⟨rfl, B10⟩
end Go.Proofs.Qxb6630095a
