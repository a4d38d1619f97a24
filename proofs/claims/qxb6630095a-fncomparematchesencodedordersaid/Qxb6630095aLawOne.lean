import Derived.Test.Qxb6630095aGuardC
import Derived.Test.Qxb6630095aLawTwo
namespace Go.Proofs.Qxb6630095a
open Go.RowKit
open Enc
open Go.Lib (compareBytes)

theorem cmp_bd : ∀ (s t : List UInt8), -1 ≤ compareBytes s t ∧ compareBytes s t ≤ 1
  | [], [] => by decide
  | [], _ :: _ => by simp [compareBytes]
  | _ :: _, [] => by simp [compareBytes]
  | a :: s, b :: t => by
    have := cmp_bd s t
    unfold compareBytes
    split
    · omega
    · split <;> omega

set_option maxRecDepth 100000 in
set_option maxHeartbeats 2000000 in
theorem one_walk (a b : Option Addr) (la ca lb cb : Nat) (xs ys : List (ByteArray × ByteArray)) (w : World) (hA : Lab w a la xs) (hB : Lab w b lb ys) (ma : la ≤ maxLen) (mb : lb ≤ maxLen) :
    Calls Try.prog 3 #[.slice a la ca, .slice b lb cb] w fun e w' => e = .returned (.bool true) ∧ Below w.heap.size w w' := by
  have HA : Hid (Lab w a la xs) := hA
  have HB : Hid (Lab w b lb ys) := hB
  have HLX : Hid (xs.length = la) := hA.1
  have HLY : Hid (ys.length = lb) := hB.1
  clear hA hB
  go_enter Try.func3, Try.ntmps3
  go_wp2_with fail
  refine (guard5 a b la ca lb cb xs ys _ HA.out HB.out ma mb).mono ?_
  rintro e w' ⟨⟨r, rfl, htot⟩, hw⟩
  subst hw
  cases r with
  | false =>
    go_wp2
    go_ret
    exact ⟨rfl, Below.refl _ _⟩
  | true =>
    have ht := htot rfl
    clear htot
    by_cases t1 : 65536 < la
    · go_wp2
      go_ret
      exact ⟨rfl, Below.refl _ _⟩
    by_cases t2 : 65536 < lb
    · go_wp2
      go_ret
      exact ⟨rfl, Below.refl _ _⟩
    go_wp2_with fail
    refine (guard6 a b none la ca lb cb 0 0 xs ys [] _ HA.out HB.out ⟨rfl, fun p hp => (by cases hp), fun h => (by omega)⟩ (by omega) (by omega) (by omega)).mono ?_
    rintro e w1 ⟨⟨r, rfl⟩, n, hw⟩
    have B1 : Below w.heap.size w w1 := by rw [hw]; exact below_draws w n
    clear hw
    cases r with
    | false =>
      go_wp2
      go_ret
      exact ⟨rfl, B1⟩
    | true =>
      have HA1 : Hid (Lab w1 a la xs) := HA.out.later B1
      have HB1 : Hid (Lab w1 b lb ys) := HB.out.later B1
      have hex := encL_le xs
      have hey := encL_le ys
      rw [HLX.out] at hex
      rw [HLY.out] at hey
      clear HA HB
      go_wp2_with fail
      refine (enc7 a la ca xs _ HA1.out (by omega) (by omega)).mono ?_
      rintro e w2 ⟨va, rfl, hown, C2⟩
      have B2 : Below w.heap.size w w2 := B1.trans (C2.mono B1.size)
      have HA2 : Hid (Lab w2 a la xs) := HA1.out.later C2
      have HB2 : Hid (Lab w2 b lb ys) := HB1.out.later C2
      obtain ⟨aa, caa, hva, hbyt⟩ := hown.read
      rw [hva]
      have HY2 : Hid (Byt w2 aa (encL xs)) := hbyt
      clear HA1 HB1 hown C2 B1 hva hbyt
      go_wp2_with fail
      refine (enc7 b lb cb ys _ HB2.out (by omega) (by omega)).mono ?_
      rintro e w3 ⟨vb, rfl, hown, C3⟩
      have B3 : Below w.heap.size w w3 := B2.trans (C3.mono B2.size)
      have HA30 : Hid (Lab w3 a la xs) := HA2.out.later C3
      have HB30 : Hid (Lab w3 b lb ys) := HB2.out.later C3
      have HY3 : Hid (Byt w3 aa (encL xs)) := HY2.out.later C3
      obtain ⟨ab, cab, hvb, hbyt⟩ := hown.read
      rw [hvb]
      have HZ3 : Hid (Byt w3 ab (encL ys)) := hbyt
      clear HA2 HB2 hown C3 B2 hvb hbyt HY2
      go_wp2_with fail
      refine (prefix8 aa ab (encL xs) (encL ys) caa cab _ HY3.out HZ3.out (by omega) (by omega)).mono ?_
      rintro e w4 ⟨rfl, n4, hw⟩
      have C4 : Below w3.heap.size w3 w4 := by rw [hw]; exact below_draws w3 n4
      have B4 : Below w.heap.size w w4 := B3.trans (C4.mono B3.size)
      have HA4 : Hid (Lab w4 a la xs) := HA30.out.later C4
      have HB4 : Hid (Lab w4 b lb ys) := HB30.out.later C4
      have HY4 : Hid (Byt w4 aa (encL xs)) := HY3.out.later C4
      have HZ4 : Hid (Byt w4 ab (encL ys)) := HZ3.out.later C4
      clear C4 hw B3 HA30 HB30 HY3 HZ3
      cases hp : preB (encL xs) (encL ys) with
      | true =>
        have B5 := B4
        have HA3 := HA4
        have HB3 := HB4
        clear B4 HA4 HB4 HY4 HZ4
        have HG : Hid (cmpLab xs ys = (la : Int) - lb) := by show _ = _; rw [law_pre xs ys (.inl ((preB_iff _ _).1 hp)), HLX.out, HLY.out]
        have HK : Hid (cmpLab ys xs = -((la : Int) - lb)) := by show _ = _; rw [law_back xs ys, HG.out]
        clear hp
        go_wp2_with fail
        refine (labels_any a la ca xs _ HA3.out (by omega)).mono ?_
        rintro e w6 ⟨al, rfl, hP, C6⟩
        have B6 : Below w.heap.size w w6 := B5.trans (C6.mono B5.size)
        have HB6 : Hid (Lab w6 b lb ys) := HB3.out.later C6
        have HP6 : Hid (Lab w6 al la xs) := hP
        clear hP C6 B5 HA3 HB3
        go_wp2_with fail
        refine (labels_any b lb cb ys _ HB6.out (by omega)).mono ?_
        rintro e w7 ⟨bl, rfl, hQ, C7⟩
        have B7 : Below w.heap.size w w7 := B6.trans (C7.mono B6.size)
        have HP7 : Hid (Lab w7 al la xs) := HP6.out.later C7
        have HQ7 : Hid (Lab w7 bl lb ys) := hQ
        clear hQ C7 B6 HB6 HP6
        go_wp2_with fail
        refine (compare_any _ _ la la lb lb _ _ _ HP7.out HQ7.out (by unfold maxLen; omega) (by unfold maxLen; omega)).mono ?_
        rintro e w8 ⟨rfl, n8, hw⟩
        rw [HG.out]
        have C8 : Below w7.heap.size w7 w8 := by rw [hw]; exact below_draws w7 n8
        have B8 : Below w.heap.size w w8 := B7.trans (C8.mono B7.size)
        have HP8 : Hid (Lab w8 al la xs) := HP7.out.later C8
        have HQ8 : Hid (Lab w8 bl lb ys) := HQ7.out.later C8
        clear C8 hw B7 HP7 HQ7
        go_wp2_with fail
        refine (compare_any _ _ lb lb la la _ _ _ HQ8.out HP8.out (by unfold maxLen; omega) (by unfold maxLen; omega)).mono ?_
        rintro e w9 ⟨rfl, n9, hw⟩
        rw [HK.out]
        have B9 : Below w.heap.size w w9 := by rw [hw]; exact B8.trans ((below_draws w8 n9).mono B8.size)
        clear hw B8 HP8 HQ8
        go_wp2
        go_ret
        exact ⟨rfl, B9⟩
      | false =>
        have HN : Hid (preB (encL xs) (encL ys) = false) := hp
        clear hp
        go_wp2_with fail
        refine (prefix8 ab aa (encL ys) (encL xs) cab caa _ HZ4.out HY4.out (by omega) (by omega)).mono ?_
        rintro e w5 ⟨rfl, n5, hw⟩
        have C5 : Below w4.heap.size w4 w5 := by rw [hw]; exact below_draws w4 n5
        have B50 : Below w.heap.size w w5 := B4.trans (C5.mono B4.size)
        have HA5 : Hid (Lab w5 a la xs) := HA4.out.later C5
        have HB5 : Hid (Lab w5 b lb ys) := HB4.out.later C5
        have HY5 : Hid (Byt w5 aa (encL xs)) := HY4.out.later C5
        have HZ5 : Hid (Byt w5 ab (encL ys)) := HZ4.out.later C5
        clear C5 hw B4 HA4 HB4 HY4 HZ4
        cases hp : preB (encL ys) (encL xs) with
        | true =>
          have B5 := B50
          have HA3 := HA5
          have HB3 := HB5
          clear B50 HA5 HB5 HY5 HZ5
          have HG : Hid (cmpLab xs ys = (la : Int) - lb) := by show _ = _; rw [law_pre xs ys (.inr ((preB_iff _ _).1 hp)), HLX.out, HLY.out]
          have HK : Hid (cmpLab ys xs = -((la : Int) - lb)) := by show _ = _; rw [law_back xs ys, HG.out]
          clear hp HN
          go_wp2_with fail
          refine (labels_any a la ca xs _ HA3.out (by omega)).mono ?_
          rintro e w6 ⟨al, rfl, hP, C6⟩
          have B6 : Below w.heap.size w w6 := B5.trans (C6.mono B5.size)
          have HB6 : Hid (Lab w6 b lb ys) := HB3.out.later C6
          have HP6 : Hid (Lab w6 al la xs) := hP
          clear hP C6 B5 HA3 HB3
          go_wp2_with fail
          refine (labels_any b lb cb ys _ HB6.out (by omega)).mono ?_
          rintro e w7 ⟨bl, rfl, hQ, C7⟩
          have B7 : Below w.heap.size w w7 := B6.trans (C7.mono B6.size)
          have HP7 : Hid (Lab w7 al la xs) := HP6.out.later C7
          have HQ7 : Hid (Lab w7 bl lb ys) := hQ
          clear hQ C7 B6 HB6 HP6
          go_wp2_with fail
          refine (compare_any _ _ la la lb lb _ _ _ HP7.out HQ7.out (by unfold maxLen; omega) (by unfold maxLen; omega)).mono ?_
          rintro e w8 ⟨rfl, n8, hw⟩
          rw [HG.out]
          have C8 : Below w7.heap.size w7 w8 := by rw [hw]; exact below_draws w7 n8
          have B8 : Below w.heap.size w w8 := B7.trans (C8.mono B7.size)
          have HP8 : Hid (Lab w8 al la xs) := HP7.out.later C8
          have HQ8 : Hid (Lab w8 bl lb ys) := HQ7.out.later C8
          clear C8 hw B7 HP7 HQ7
          go_wp2_with fail
          refine (compare_any _ _ lb lb la la _ _ _ HQ8.out HP8.out (by unfold maxLen; omega) (by unfold maxLen; omega)).mono ?_
          rintro e w9 ⟨rfl, n9, hw⟩
          rw [HK.out]
          have B9 : Below w.heap.size w w9 := by rw [hw]; exact B8.trans ((below_draws w8 n9).mono B8.size)
          clear hw B8 HP8 HQ8
          go_wp2
          go_ret
          exact ⟨rfl, B9⟩
        | false =>
          have HM : Hid (preB (encL ys) (encL xs) = false) := hp
          clear hp
          go_wp2_with fail
          refine (byteCmp9 aa ab (encL xs) (encL ys) caa cab _ HY5.out HZ5.out (by omega) (by omega)).mono ?_
          rintro e w55 ⟨rfl, n55, hw⟩
          have C5 : Below w5.heap.size w5 w55 := by rw [hw]; exact below_draws w5 n55
          have B5 : Below w.heap.size w w55 := B50.trans (C5.mono B50.size)
          have HA3 : Hid (Lab w55 a la xs) := HA5.out.later C5
          have HB3 : Hid (Lab w55 b lb ys) := HB5.out.later C5
          clear C5 hw B50 HA5 HB5 HY5 HZ5
          have HD : Hid (¬ (encL xs <+: encL ys ∨ encL ys <+: encL xs)) := by
            intro h
            rcases h with h | h
            · have := (preB_iff _ _).2 h; rw [HN.out] at this; cases this
            · have := (preB_iff _ _).2 h; rw [HM.out] at this; cases this
          obtain ⟨d, hd⟩ : ∃ d, d = compareBytes (encL xs) (encL ys) := ⟨_, rfl⟩
          have hbd := cmp_bd (encL xs) (encL ys)
          rw [← hd] at hbd ⊢
          have HDD : Hid (d = compareBytes (encL xs) (encL ys)) := hd
          clear hd
          have HG : Hid (cmpLab xs ys = d) := (law_cmp xs ys HD.out).trans HDD.out.symm
          have HK : Hid (cmpLab ys xs = -(d)) := by show _ = _; rw [law_back xs ys, HG.out]
          clear HD HN HM
          go_wp2_with fail
          refine (labels_any a la ca xs _ HA3.out (by omega)).mono ?_
          rintro e w6 ⟨al, rfl, hP, C6⟩
          have B6 : Below w.heap.size w w6 := B5.trans (C6.mono B5.size)
          have HB6 : Hid (Lab w6 b lb ys) := HB3.out.later C6
          have HP6 : Hid (Lab w6 al la xs) := hP
          clear hP C6 B5 HA3 HB3
          go_wp2_with fail
          refine (labels_any b lb cb ys _ HB6.out (by omega)).mono ?_
          rintro e w7 ⟨bl, rfl, hQ, C7⟩
          have B7 : Below w.heap.size w w7 := B6.trans (C7.mono B6.size)
          have HP7 : Hid (Lab w7 al la xs) := HP6.out.later C7
          have HQ7 : Hid (Lab w7 bl lb ys) := hQ
          clear hQ C7 B6 HB6 HP6
          go_wp2_with fail
          refine (compare_any _ _ la la lb lb _ _ _ HP7.out HQ7.out (by unfold maxLen; omega) (by unfold maxLen; omega)).mono ?_
          rintro e w8 ⟨rfl, n8, hw⟩
          rw [HG.out]
          have C8 : Below w7.heap.size w7 w8 := by rw [hw]; exact below_draws w7 n8
          have B8 : Below w.heap.size w w8 := B7.trans (C8.mono B7.size)
          have HP8 : Hid (Lab w8 al la xs) := HP7.out.later C8
          have HQ8 : Hid (Lab w8 bl lb ys) := HQ7.out.later C8
          clear C8 hw B7 HP7 HQ7
          go_wp2_with fail
          refine (compare_any _ _ lb lb la la _ _ _ HQ8.out HP8.out (by unfold maxLen; omega) (by unfold maxLen; omega)).mono ?_
          rintro e w9 ⟨rfl, n9, hw⟩
          rw [HK.out]
          have B9 : Below w.heap.size w w9 := by rw [hw]; exact B8.trans ((below_draws w8 n9).mono B8.size)
          clear hw B8 HP8 HQ8
          go_wp2
          go_ret
          exact ⟨rfl, B9⟩
end Go.Proofs.Qxb6630095a
