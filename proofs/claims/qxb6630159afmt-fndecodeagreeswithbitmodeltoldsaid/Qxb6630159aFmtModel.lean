import Derived.Test.Qxb6630159aFmtDec
import Derived.Test.Qxb6630159aFmtBitm
namespace Go.Proofs.Qxb6630159aFmt
open Go.RowKit
set_option linter.unusedVariables false

theorem info39 : (Tryf.prog.info? 39).map (fun i => (i.zero, i.size, i.bytes)) = some (some (.int .u64 0), 1, 8) := by kernel_rfl
theorem make25 (n : Nat) (hn : n ≤ 65536) (w : World) : (Instr.makeSlice 25 (.int .i64 (n : Int)) (.int .i64 (n : Int))).run Tryf.prog w = .ok (.slice (some ⟨w.heap.size, 0, none⟩) n n) (w.alloc (.cells (madeCells #[.int .u64 0] n) 39)) :=
  run_make_row' 25 39 (.int .u64 0) 8 Tryf.underlying25 info39 rfl .i64 .i64 n (by omega) (by omega) w

/-- the first k entries are laid -/
def entU (bs : List Nat) (W k j : Nat) : Value := if j < k then .int .u64 ((fld bs (j * W) W : Nat) : Int) else .int .u64 0
theorem entU_step (bs : List Nat) (W k j : Nat) : (if j = k then .int .u64 ((fld bs (k * W) W : Nat) : Int) else entU bs W k j) = entU bs W (k + 1) j := by
  unfold entU
  by_cases h : j = k
  · subst h; rw [if_pos rfl, if_pos (by omega)]
  · rw [if_neg h]
    by_cases h2 : j < k
    · rw [if_pos h2, if_pos (by omega)]
    · rw [if_neg h2, if_neg (by omega)]

def MRes (bs : List Nat) (len n W bound : Nat) (w : World) (e : Ending) (w' : World) : Prop :=
  (OK bs len n W bound ∧ e = .returned (.tuple #[.bool true, .slice (some ⟨w.heap.size, 0, none⟩) n n]) ∧ w'.rowIs w.heap.size 39 n (entU bs W n)) ∨ (¬ OK bs len n W bound ∧ e = .returned (.tuple #[.bool false, .slice none 0 0]))

set_option maxHeartbeats 400000 in
theorem model_len (n W P : Nat) (a : Option Addr) (len cap bound : Nat) (w : World) (hP : n * W = P) (hPl : P ≤ 4000000) (hn : n ≤ 65536) (hl : len ≤ 2000000) (hne : len ≠ (P + 7) / 8) :
    Calls Tryf.prog 7 #[.slice a len cap, .int .i64 (n : Int), .int .i64 (W : Int), .int .i64 (bound : Int)] w fun e w' => e = .returned (.tuple #[.bool false, .slice none 0 0]) ∧ w = w' := by
  have hP' : (n : Int) * W = P := by rw [← hP]; simp
  have hni : (len : Int) ≠ ((P : Int) + 7) / 8 := by omega
  clear hP hne
  go_enter Tryf.func7, Tryf.ntmps7
  go_wp2
  go_ret2
  exact ⟨rfl, rfl⟩

set_option maxRecDepth 100000 in
set_option maxHeartbeats 600000 in
theorem model_main (n W P : Nat) (a : Option Addr) (len cap bound : Nat) (bs : List Nat) (w : World) (hR : Row w a len bs) (hP : n * W = P) (hPl : P ≤ 4000000) (hn : n ≤ 65536) (hl : len ≤ 1048576) (hlen : len = (P + 7) / 8) (hW : W ≤ 32) (hbd : bound ≤ 2000000000) :
    Calls Tryf.prog 7 #[.slice a len cap, .int .i64 (n : Int), .int .i64 (W : Int), .int .i64 (bound : Int)] w fun e w' => MRes bs len n W bound w e w' ∧ Below w.heap.size w w' := by
  have hP' : (n : Int) * W = P := by rw [← hP]; simp
  have hni : (len : Int) = ((P : Int) + 7) / 8 := by omega
  have HP : Hid (n * W = P) := hP
  have HL : Hid (len = (P + 7) / 8) := hlen
  have HR : Hid (Row w a len bs) := hR
  have hP8 : P ≤ len * 8 := by omega
  have HPB : Hid (PadOK bs len P ↔ ∀ i, P ≤ i → i < 8 * len → bit bs i = 0) := pad_bits bs len P (fun j => hR.byte j) hlen
  have hmk := make25 n hn
  clear hP hR hlen
  go_enter Tryf.func7, Tryf.ntmps7
  go_wp2_with fail
  clear hmk
  go_loopw [11] (fun i wr => ∃ k : Nat, k ≤ n ∧ i = .int .i64 (k : Int) ∧ wr.rowIs w.heap.size 39 n (entU bs W k) ∧ Below w.heap.size w wr ∧ ∀ j, j < k → fld bs (j * W) W < bound) (fun i _ => n - (intOf i).toNat)
  case atStart =>
    refine ⟨0, Nat.zero_le _, rfl, ?_, (Below.refl _ w).alloc (Nat.le_refl _) _, fun j hj => by omega⟩
    exact (World.rowIs_made w (.int .u64 0) n 39).congr (fun j _ => by simp [entU])
  case round =>
    obtain ⟨k, hk, rfl, hrow, B0, hall⟩ := hrel
    have HALL : Hid (∀ j, j < k → fld bs (j * W) W < bound) := hall
    have HRr : Hid (Row wr a len bs) := HR.out.later B0
    clear hall
    by_cases hlt : k < n
    · obtain ⟨o, ho⟩ : ∃ o, o = k * W := ⟨_, rfl⟩
      have hoi : (k : Int) * W = (o : Int) := by rw [ho]; simp
      have hoW : o + W ≤ P := by
        have h1 : (k + 1) * W ≤ n * W := Nat.mul_le_mul_right W (by omega)
        rw [Nat.succ_mul, ← ho, HP.out] at h1
        exact h1
      have HO : Hid (o = k * W) := ho
      have hki : (k : Int) < n := by omega
      obtain ⟨v, hv⟩ : ∃ v, v = fld bs o W := ⟨_, rfl⟩
      have hvl : v < 4294967296 := by
        have h1 := fld_lt bs o W
        have h2 : 2 ^ W ≤ 2 ^ 32 := Nat.pow_le_pow_right (by omega) hW
        rw [hv]; omega
      have HV : Hid (v = fld bs o W) := hv
      clear hv ho
      have e1 := hrow.cell (i := k) hlt
      have ef := hrow.frozen k
      have hsz := hrow.lt
      by_cases hbad : bound ≤ v
      · have HN : Hid (¬ OK bs len n W bound) := fun h => by
          have := h.2.1 k hlt
          rw [← HO.out, ← HV.out] at this
          omega
        clear hrow
        go_wp2_with (go_at_call 14; refine (zzField_any a len cap bs o W _ HRr.out (by omega) hW (by omega)).mono ?_; rintro e w' ⟨rfl, hw⟩; subst hw; rw [← HV.out])
        go_ret2
        exact ⟨.inr ⟨HN.out, rfl⟩, B0⟩
      · have HROW : Hid (wr.rowIs w.heap.size 39 n (entU bs W k)) := hrow
        clear hrow
        go_wp2_with (go_at_call 14; refine (zzField_any a len cap bs o W _ HRr.out (by omega) hW (by omega)).mono ?_; rintro e w' ⟨rfl, hw⟩; subst hw; rw [← HV.out])
        go_roundw
        case rel =>
          refine ⟨k + 1, by omega, by go_num, ?_, B0.setCell (Nat.le_refl _) _, ?_⟩
          · refine (HROW.out.set k _).congr fun j _ => ?_
            rw [← entU_step, ← HO.out, ← HV.out]
          · intro j hj
            by_cases e : j = k
            · subst e; rw [← HO.out, ← HV.out]; omega
            · exact HALL.out j (by omega)
        case measure => simp [intOf]; omega
    · have hkn : k = n := by omega
      subst hkn
      have HROW : Hid (wr.rowIs w.heap.size 39 k (entU bs W k)) := hrow
      clear hrow
      go_wp2_with fail
      go_loop [13] (fun i => ∃ m : Nat, P ≤ m ∧ m ≤ 8 * len ∧ i = .int .i64 (m : Int) ∧ ∀ j, P ≤ j → j < m → bit bs j = 0) (fun i => 8 * len - (intOf i).toNat)
      case atStart => exact ⟨P, Nat.le_refl _, by omega, rfl, fun j h1 h2 => by omega⟩
      case round =>
        obtain ⟨m, hm1, hm2, rfl, hz⟩ := hrel
        have HZ : Hid (∀ j, P ≤ j → j < m → bit bs j = 0) := hz
        clear hz
        by_cases hml : m < 8 * len
        · obtain ⟨t, ht⟩ : ∃ t, t = bit bs m := ⟨_, rfl⟩
          have HT : Hid (t = bit bs m) := ht
          have ht2 : t < 2 := by rw [ht]; exact bit_lt _ _
          clear ht
          by_cases h0 : t = 0
          · subst h0
            go_wp2_with (go_at_call 15; refine (zzBit_any a len cap bs m _ HRr.out (by omega) (by omega)).mono ?_; rintro e w' ⟨rfl, hw⟩; subst hw; rw [← HT.out])
            go_round
            case rel =>
              refine ⟨m + 1, by omega, by omega, by go_num, fun j h1 h2 => ?_⟩
              by_cases e : j = m
              · subst e; exact HT.out.symm
              · exact HZ.out j h1 (by omega)
            case measure => simp [intOf]; omega
          · have h1 : t = 1 := by omega
            subst h1
            go_wp2_with (go_at_call 15; refine (zzBit_any a len cap bs m _ HRr.out (by omega) (by omega)).mono ?_; rintro e w' ⟨rfl, hw⟩; subst hw; rw [← HT.out])
            go_ret2
            refine ⟨.inr ⟨fun h => ?_, rfl⟩, B0⟩
            have h3 := h.2.2
            rw [HP.out] at h3
            have := HPB.out.1 h3 m hm1 hml
            rw [← HT.out] at this
            omega
        · go_wp2
          go_ret2
          refine ⟨.inl ⟨⟨by rw [HP.out]; exact HL.out, HALL.out, ?_⟩, rfl, HROW.out⟩, B0⟩
          rw [HP.out]
          exact HPB.out.2 fun i h1 h2 => HZ.out i h1 (by omega)

theorem model_any (n W : Nat) (a : Option Addr) (len cap bound : Nat) (bs : List Nat) (w : World) (hR : Row w a len bs) (hn : n ≤ 65536) (hl : len ≤ 1048576) (hW : W ≤ 32) (hbd : bound ≤ 2000000000) :
    Calls Tryf.prog 7 #[.slice a len cap, .int .i64 (n : Int), .int .i64 (W : Int), .int .i64 (bound : Int)] w fun e w' => MRes bs len n W bound w e w' ∧ Below w.heap.size w w' := by
  have hP : n * W ≤ 65536 * 32 := Nat.mul_le_mul hn hW
  by_cases h : len = (n * W + 7) / 8
  · exact model_main n W (n * W) a len cap bound bs w hR rfl (by omega) hn hl h hW hbd
  · refine (model_len n W (n * W) a len cap bound w rfl (by omega) hn (by omega) h).mono ?_
    rintro e w' ⟨rfl, hw⟩
    subst hw
    exact ⟨.inr ⟨fun k => h k.1, rfl⟩, Below.refl _ _⟩
end Go.Proofs.Qxb6630159aFmt
