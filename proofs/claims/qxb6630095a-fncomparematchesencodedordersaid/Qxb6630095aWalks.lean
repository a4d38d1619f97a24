import Derived.Test.Qxb6630095aRows
import Derived.Test.Qxb6630095aPlain
import Derived.WalkKit
import Derived.WalkSpells
import Derived.WalkLawsBesides
import Derived.Deep.QuietTactic
import Derived.BigQuiet
import Derived.RegionTactic
import Derived.ChangeAlike
import Derived.Handy
import Derived.Lib.Walk
namespace Go.Proofs.Qxb6630095a
open Go.RowKit
open Go.Lib (compareBytes)

theorem cmp16 (a b : ByteArray) (w : World) :
    Calls Try.prog 16 #[.string a, .string b] w fun e w' => e = .returned (.int .i64 (compareBytes a.data.toList b.data.toList)) ∧ w' = w := by
  go_enter Try.func16, Try.ntmps16
  go_wp2
  rw [run_callFunc_extern Try.func17 (by kernel_rfl) (by kernel_rfl) (by kernel_rfl) (e := Extern.BytealgCompare.compare) (by kernel_rfl), Lib.run_compareString]
  simp only [Result.andThen]
  rw [Oper.upon_value]
  go_wp2
  go_ret
  exact ⟨rfl, rfl⟩
theorem cmp15 (a b : ByteArray) (w : World) :
    Calls Try.prog 15 #[.string a, .string b] w fun e w' => e = .returned (.int .i64 (compareBytes a.data.toList b.data.toList)) ∧ w' = w := by
  go_enter Try.func15, Try.ntmps15
  go_wp2_with (go_at_call 16; refine (cmp16 _ _ _).mono ?_; rintro e w' ⟨rfl, rfl⟩)
  go_ret
  exact ⟨rfl, rfl⟩

/-- A slice of labels as it lies: its elements 'ls', two strings each. -/
def Lab (w : World) (a : Option Addr) (len : Nat) (ls : List (ByteArray × ByteArray)) : Prop :=
  ls.length = len ∧ (∀ p ∈ ls, p.1.size ≤ maxLen ∧ p.2.size ≤ maxLen) ∧
    (0 < len → ∃ b o, a = some ⟨b, o, none⟩ ∧ ∀ j (h : j < ls.length), w.cell? ⟨b, o + j * 2, none⟩ = some (.string ls[j].1) ∧ w.cell? ⟨b, o + j * 2 + 1, none⟩ = some (.string ls[j].2))

set_option maxHeartbeats 400000 in
theorem compare_any (a b : Option Addr) (la ca lb cb : Nat) (xs ys : List (ByteArray × ByteArray)) (w : World) (hA : Lab w a la xs) (hB : Lab w b lb ys) (ma : la ≤ maxLen) (mb : lb ≤ maxLen) :
    Calls Try.prog 11 #[.slice a la ca, .slice b lb cb] w fun e w' => e = .returned (.int .i64 (cmpLab xs ys)) ∧ ∃ n, w' = w.drewN n := by
  obtain ⟨hxl, _, hA⟩ := hA
  obtain ⟨hyl, _, hB⟩ := hB
  unfold maxLen at ma mb
  have HXL : Hid (xs.length = la) := hxl
  have HYL : Hid (ys.length = lb) := hyl
  have HA : Hid _ := hA
  have HB : Hid _ := hB
  clear hxl hyl hA hB
  go_enter Try.func11, Try.ntmps11
  go_wp2
  go_loopw [5] (fun i wr => ∃ k n : Nat, k ≤ la ∧ k ≤ lb ∧ i = .int .i64 k ∧ wr = w.drewN n ∧ cmpLab xs ys = cmpLab (xs.drop k) (ys.drop k)) (fun i _ => la - (intOf i).toNat)
  case atStart => exact ⟨0, 0, Nat.zero_le _, Nat.zero_le _, rfl, rfl, rfl⟩
  case round =>
    obtain ⟨k, n, hka, hkb, rfl, hw, hrel⟩ := hrel
    have HW : Hid (wr = w.drewN n) := hw
    clear hw
    have HR : Hid _ := hrel
    clear hrel
    by_cases hlt : k < la ∧ k < lb
    · obtain ⟨h1, h2⟩ := hlt
      obtain ⟨ba, oa, rfl, hca⟩ := HA.out (by omega)
      obtain ⟨bb, ob, rfl, hcb⟩ := HB.out (by omega)
      obtain ⟨x1, hx1⟩ : ∃ x, x = (xs[k]'(by rw [HXL.out]; exact h1)).1 := ⟨_, rfl⟩
      obtain ⟨x2, hx2⟩ : ∃ x, x = (xs[k]'(by rw [HXL.out]; exact h1)).2 := ⟨_, rfl⟩
      obtain ⟨y1, hy1⟩ : ∃ x, x = (ys[k]'(by rw [HYL.out]; exact h2)).1 := ⟨_, rfl⟩
      obtain ⟨y2, hy2⟩ : ∃ x, x = (ys[k]'(by rw [HYL.out]; exact h2)).2 := ⟨_, rfl⟩
      have gx := hca k (by rw [HXL.out]; exact h1)
      have gy := hcb k (by rw [HYL.out]; exact h2)
      rw [← hx1, ← hx2] at gx
      rw [← hy1, ← hy2] at gy
      have gx1 : wr.cell? ⟨ba, oa + k * 2, none⟩ = some (.string x1) := by rw [HW.out]; exact gx.1
      have gx2 : wr.cell? ⟨ba, oa + k * 2 + 1, none⟩ = some (.string x2) := by rw [HW.out]; exact gx.2
      have gy1 : wr.cell? ⟨bb, ob + k * 2, none⟩ = some (.string y1) := by rw [HW.out]; exact gy.1
      have gy2 : wr.cell? ⟨bb, ob + k * 2 + 1, none⟩ = some (.string y2) := by rw [HW.out]; exact gy.2
      clear gx gy
      have HS : Hid (cmpLab xs ys = if compareBytes x1.data.toList y1.data.toList = 0 then
        if compareBytes x2.data.toList y2.data.toList = 0 then cmpLab (xs.drop (k + 1)) (ys.drop (k + 1)) else compareBytes x2.data.toList y2.data.toList
        else compareBytes x1.data.toList y1.data.toList) := by
        rw [hx1, hx2, hy1, hy2]
        exact HR.out.trans (cmpLab_step xs ys k _ _)
      clear hca hcb hx1 hx2 hy1 hy2 HA HB HR
      go_wp2_with fail
      go_quiet ((go_at_call 15; exact Calls.quiet_of_same (cmp15 _ _ _)))
      by_cases hc1 : compareBytes x1.data.toList y1.data.toList = 0
      · rw [if_pos hc1] at HS
        go_wp2_with fail
        generalize hw2 : wr.drewN nq = wr2
        obtain ⟨n2, HW2⟩ : ∃ n2, Hid (wr2 = w.drewN n2) := ⟨n + nq, by show _ = _; rw [← hw2, HW.out]; simp⟩
        have kx2 : wr2.cell? ⟨ba, oa + k * 2 + 1, none⟩ = some (.string x2) := by rw [← hw2]; exact gx2
        have ky2 : wr2.cell? ⟨bb, ob + k * 2 + 1, none⟩ = some (.string y2) := by rw [← hw2]; exact gy2
        clear hw2 gx1 gx2 gy1 gy2
        go_quiet ((go_at_call 15; exact Calls.quiet_of_same (cmp15 _ _ _)))
        by_cases hc2 : compareBytes x2.data.toList y2.data.toList = 0
        · rw [if_pos hc2] at HS
          go_wp2
          go_roundw
          case rel => exact ⟨k + 1, n2 + nq, by omega, by omega, by go_num, by rw [HW2.out]; simp, HS.out⟩
          case measure => simp [intOf]; omega
        · rw [if_neg hc2] at HS
          go_wp2
          go_ret
          exact ⟨by rw [HS.out]; rfl, n2 + nq, by rw [HW2.out]; simp⟩
      · rw [if_neg hc1] at HS
        go_wp2
        go_ret
        exact ⟨by rw [HS.out]; rfl, n + nq, by rw [HW.out]; simp⟩
    · have HE : Hid (cmpLab xs ys = (la : Int) - lb) := by
        show _ = _
        rw [HR.out, cmpLab_end xs ys k (by rw [HXL.out]; exact hka) (by rw [HYL.out]; exact hkb) (by rw [HXL.out, HYL.out]; exact hlt), HXL.out, HYL.out]
      clear HA HB HR
      by_cases h1 : k < la
      · have h2 : ¬ k < lb := by omega
        clear hlt
        go_wp2
        go_ret
        exact ⟨by rw [HE.out]; rfl, n, HW.out⟩
      · clear hlt
        go_wp2
        go_ret
        exact ⟨by rw [HE.out]; rfl, n, HW.out⟩
end Go.Proofs.Qxb6630095a
