import Derived.Test.Qxb6630095aEnc
namespace Go.Proofs.Qxb6630095a
open Go.RowKit
open Enc
open Go.Lib (compareBytes)

/-- A slice of bytes as it lies (a row of the call's own). -/
def Byt (w : World) (a : Option Addr) (l : List UInt8) : Prop := 0 < l.length → ∃ b, a = some ⟨b, 0, none⟩ ∧ ∀ j (h : j < l.length), w.cell? ⟨b, j, none⟩ = some (.int .u8 (l[j].toNat : Int))
theorem Own.read {w : World} {base : Nat} {v : Value} {l : List UInt8} (h : Own w base v l) : ∃ a cap, v = .slice a l.length cap ∧ Byt w a l := by
  obtain ⟨_, h⟩ := h
  rcases h with ⟨rfl, h0⟩ | ⟨g, cap, cur, rfl, _, hg, hn, _, hs, hx⟩
  · exact ⟨none, 0, by rw [h0], fun h => by omega⟩
  · refine ⟨_, cap, rfl, fun _ => ⟨g, rfl, fun j hj => ?_⟩⟩
    have e : cur.toList[j]? = some (.int .u8 (l[j].toNat : Int)) := by
      have : (cur.toList.take (l.length * 1))[j]? = cur.toList[j]? := List.getElem?_take_of_lt (by omega)
      rw [← this, hx]
      simp [bys, hj]
    simp [World.cell?, hg]
    simpa using e
theorem Byt.later {w w' : World} {a : Option Addr} {l : List UInt8} (h : Byt w a l) (hb : Below w.heap.size w w') : Byt w' a l := by
  intro hl
  obtain ⟨b, e, hc⟩ := h hl
  refine ⟨b, e, fun j hj => ?_⟩
  have c := hc j hj
  have hlt : b < w.heap.size := World.block_lt_of_cell? _ _ c
  exact (hb.cell (by exact hlt)).trans c

def preB (p q : List UInt8) : Bool := p.isPrefixOf q
theorem preB_iff (p q : List UInt8) : preB p q = true ↔ p <+: q := List.isPrefixOf_iff_prefix
theorem preB_false (p q : List UInt8) (h : ¬ p <+: q) : preB p q = false := by
  cases e : preB p q
  · rfl
  · exact absurd ((preB_iff p q).1 e) h
theorem pre_all (p q : List UInt8) (hl : p.length ≤ q.length) (h : ∀ j (h1 : j < p.length) (h2 : j < q.length), p[j] = q[j]) : p <+: q := by
  rw [List.prefix_iff_eq_take]
  apply List.ext_getElem
  · simp; omega
  · intro j h1 h2
    rw [List.getElem_take]
    exact h j h1 (by omega)
theorem pre_no (p q : List UInt8) (k : Nat) (h1 : k < p.length) (h2 : k < q.length) (hne : p[k] ≠ q[k]) : ¬ p <+: q := by
  intro h
  exact hne (h.getElem h1)

set_option maxRecDepth 100000 in
set_option maxHeartbeats 1000000 in
theorem prefix8 (a b : Option Addr) (p q : List UInt8) (ca cb : Nat) (w : World) (hA : Byt w a p) (hB : Byt w b q) (_mp : p.length ≤ 1000000000) (mq : q.length ≤ 1000000000) :
    Calls Try.prog 8 #[.slice a p.length ca, .slice b q.length cb] w fun e w' => e = .returned (.bool (preB p q)) ∧ ∃ n, w' = w.drewN n := by
  by_cases hl : q.length < p.length
  · have HF : Hid (preB p q = false) := preB_false p q (fun h => by have := h.length_le; omega)
    go_enter Try.func8, Try.ntmps8
    go_wp2
    go_ret
    exact ⟨by rw [HF.out]; rfl, 0, rfl⟩
  have HA : Hid (Byt w a p) := hA
  have HB : Hid (Byt w b q) := hB
  clear hA hB
  obtain ⟨lp, hlp⟩ : ∃ n, n = p.length := ⟨_, rfl⟩
  obtain ⟨lq, hlq⟩ : ∃ n, n = q.length := ⟨_, rfl⟩
  rw [← hlp, ← hlq] at hl ⊢
  rw [← hlp] at _mp
  rw [← hlq] at mq
  have HP : Hid (lp = p.length) := hlp
  have HQ : Hid (lq = q.length) := hlq
  clear hlp hlq
  go_enter Try.func8, Try.ntmps8
  go_wp2
  go_loopw [5] (fun i wr => ∃ k n : Nat, k ≤ lp ∧ i = .int .i64 k ∧ wr = w.drewN n ∧ ∀ j (h1 : j < p.length) (h2 : j < q.length), j < k → p[j] = q[j]) (fun i _ => lp - (intOf i).toNat)
  case atStart => exact ⟨0, 0, Nat.zero_le _, rfl, rfl, fun j _ _ h => by omega⟩
  case round =>
    obtain ⟨k, n, hk, rfl, hw, hall⟩ := hrel
    have HW : Hid (wr = w.drewN n) := hw
    have HALL : Hid (∀ j (h1 : j < p.length) (h2 : j < q.length), j < k → p[j] = q[j]) := hall
    clear hw hall
    by_cases hlt : k < lp
    · have hkp : k < p.length := by rw [← HP.out]; exact hlt
      have hkq : k < q.length := by rw [← HQ.out]; omega
      obtain ⟨ba, rfl, hca⟩ := HA.out (by omega)
      obtain ⟨bb, rfl, hcb⟩ := HB.out (by omega)
      obtain ⟨x, hx⟩ : ∃ x, x = p[k] := ⟨_, rfl⟩
      obtain ⟨y, hy⟩ : ∃ y, y = q[k] := ⟨_, rfl⟩
      have c1 := hca k hkp
      have c2 := hcb k hkq
      rw [← hx] at c1
      rw [← hy] at c2
      have g1 : wr.cell? ⟨ba, k, none⟩ = some (.int .u8 (x.toNat : Int)) := by rw [HW.out]; exact c1
      have g2 : wr.cell? ⟨bb, k, none⟩ = some (.int .u8 (y.toNat : Int)) := by rw [HW.out]; exact c2
      have HX : Hid (x = p[k]) := hx
      have HY : Hid (y = q[k]) := hy
      have hk1 : (k : Int) < lp := by omega
      have hk2 : (k : Int) < lq := by omega
      clear hca hcb c1 c2 hx hy HA HB
      by_cases hxy : x = y
      · subst hxy
        go_wp2_with fail
        go_quiet (fail)
        go_wp2
        go_roundw
        case rel =>
          refine ⟨k + 1, n + nq, by omega, by go_num, by rw [HW.out]; simp, fun j h1 h2 hj => ?_⟩
          by_cases e : j = k
          · subst e; exact HX.out.symm.trans HY.out
          · exact HALL.out j h1 h2 (by omega)
        case measure => simp [intOf]; omega
      · have hne : (x.toNat : Int) ≠ y.toNat := fun e => hxy (UInt8.toNat_inj.1 (by omega))
        have HF : Hid (preB p q = false) := preB_false p q (pre_no p q k (by rw [← HP.out]; exact hlt) (by rw [← HQ.out]; omega) (fun e => hxy (HX.out.trans (e.trans HY.out.symm))))
        clear hxy
        go_wp2_with fail
        go_quiet (fail)
        go_wp2
        go_ret
        exact ⟨by rw [HF.out]; rfl, n + nq, by rw [HW.out]; simp⟩
    · have HF : Hid (preB p q = true) := (preB_iff p q).2 (pre_all p q (by rw [← HP.out, ← HQ.out]; omega) (fun j h1 h2 => HALL.out j h1 h2 (by have := HP.out; omega)))
      clear HA HB
      go_wp2
      go_ret
      exact ⟨by rw [HF.out]; rfl, n, HW.out⟩

theorem cmp_step (p q : List UInt8) (k : Nat) (h1 : k < p.length) (h2 : k < q.length) : compareBytes (p.drop k) (q.drop k) = if p[k] < q[k] then -1 else if q[k] < p[k] then 1 else compareBytes (p.drop (k + 1)) (q.drop (k + 1)) := by
  rw [List.drop_eq_getElem_cons h1, List.drop_eq_getElem_cons h2]
  conv => lhs; unfold compareBytes
theorem cmp_end (p q : List UInt8) (k : Nat) (h1 : k ≤ p.length) (h2 : k ≤ q.length) (h : ¬ (k < p.length ∧ k < q.length)) : compareBytes (p.drop k) (q.drop k) = if p.length < q.length then -1 else if q.length < p.length then 1 else 0 := by
  by_cases hp : k < p.length
  · have hq : q.length ≤ k := by omega
    rw [List.drop_eq_nil_of_le hq, List.drop_eq_getElem_cons hp, if_neg (by omega), if_pos (by omega)]
    rfl
  · have hp' : p.length ≤ k := by omega
    rw [List.drop_eq_nil_of_le hp']
    by_cases hq : k < q.length
    · rw [List.drop_eq_getElem_cons hq, if_pos (by omega)]
      rfl
    · rw [List.drop_eq_nil_of_le (Nat.le_of_not_lt hq), if_neg (by omega), if_neg (by omega)]
      rfl

set_option maxRecDepth 100000 in
set_option maxHeartbeats 2000000 in
theorem byteCmp9 (a b : Option Addr) (p q : List UInt8) (ca cb : Nat) (w : World) (hA : Byt w a p) (hB : Byt w b q) (mp : p.length ≤ 1000000000) (_mq : q.length ≤ 1000000000) :
    Calls Try.prog 9 #[.slice a p.length ca, .slice b q.length cb] w fun e w' => e = .returned (.int .i64 (compareBytes p q)) ∧ ∃ n, w' = w.drewN n := by
  have HA : Hid (Byt w a p) := hA
  have HB : Hid (Byt w b q) := hB
  clear hA hB
  obtain ⟨lp, hlp⟩ : ∃ n, n = p.length := ⟨_, rfl⟩
  obtain ⟨lq, hlq⟩ : ∃ n, n = q.length := ⟨_, rfl⟩
  rw [← hlp, ← hlq]
  rw [← hlp] at mp
  rw [← hlq] at _mq
  have HP : Hid (lp = p.length) := hlp
  have HQ : Hid (lq = q.length) := hlq
  clear hlp hlq
  go_enter Try.func9, Try.ntmps9
  go_wp2
  go_loopw [5] (fun i wr => ∃ k n : Nat, k ≤ lp ∧ k ≤ lq ∧ i = .int .i64 k ∧ wr = w.drewN n ∧ compareBytes p q = compareBytes (p.drop k) (q.drop k)) (fun i _ => lp - (intOf i).toNat)
  case atStart => exact ⟨0, 0, Nat.zero_le _, Nat.zero_le _, rfl, rfl, rfl⟩
  case round =>
    obtain ⟨k, n, hkp, hkq, rfl, hw, hrel⟩ := hrel
    have HW : Hid (wr = w.drewN n) := hw
    have HR : Hid (compareBytes p q = compareBytes (p.drop k) (q.drop k)) := hrel
    clear hw hrel
    by_cases hlt : k < lp ∧ k < lq
    · obtain ⟨h1, h2⟩ := hlt
      have jp : k < p.length := by rw [← HP.out]; exact h1
      have jq : k < q.length := by rw [← HQ.out]; exact h2
      obtain ⟨ba, rfl, hca⟩ := HA.out (by omega)
      obtain ⟨bb, rfl, hcb⟩ := HB.out (by omega)
      obtain ⟨x, hx⟩ : ∃ x, x = p[k] := ⟨_, rfl⟩
      obtain ⟨y, hy⟩ : ∃ y, y = q[k] := ⟨_, rfl⟩
      have c1 := hca k jp
      have c2 := hcb k jq
      rw [← hx] at c1
      rw [← hy] at c2
      have g1 : wr.cell? ⟨ba, k, none⟩ = some (.int .u8 (x.toNat : Int)) := by rw [HW.out]; exact c1
      have g2 : wr.cell? ⟨bb, k, none⟩ = some (.int .u8 (y.toNat : Int)) := by rw [HW.out]; exact c2
      have HS : Hid (compareBytes p q = if x < y then -1 else if y < x then 1 else compareBytes (p.drop (k + 1)) (q.drop (k + 1))) := by
        rw [hx, hy]
        exact HR.out.trans (cmp_step p q k jp jq)
      have hk1 : (k : Int) < lp := by omega
      have hk2 : (k : Int) < lq := by omega
      clear hca hcb c1 c2 hx hy HA HB jp jq HR
      by_cases hxy : x < y
      · rw [if_pos hxy] at HS
        have hi : (x.toNat : Int) < y.toNat := by have := UInt8.lt_iff_toNat_lt.1 hxy; omega
        clear hxy
        go_wp2_with fail
        go_quiet (fail)
        go_wp2
        go_ret
        exact ⟨by rw [HS.out]; rfl, n + nq, by rw [HW.out]; simp⟩
      · rw [if_neg hxy] at HS
        have hi : ¬ (x.toNat : Int) < y.toNat := fun e => hxy (UInt8.lt_iff_toNat_lt.2 (by omega))
        have hi1 : decide ((x.toNat : Int) < y.toNat) = false := by simpa using hi
        clear hxy
        go_wp2_with fail
        go_quiet (fail)
        go_wp2_with fail
        generalize hw2 : wr.drewN nq = wr2
        obtain ⟨n2, HW2⟩ : ∃ n2, Hid (wr2 = w.drewN n2) := ⟨n + nq, by show _ = _; rw [← hw2, HW.out]; simp⟩
        have k1 : wr2.cell? ⟨ba, k, none⟩ = some (.int .u8 (x.toNat : Int)) := by rw [← hw2]; exact g1
        have k2 : wr2.cell? ⟨bb, k, none⟩ = some (.int .u8 (y.toNat : Int)) := by rw [← hw2]; exact g2
        clear hw2 g1 g2
        by_cases hyx : y < x
        · rw [if_pos hyx] at HS
          have hj : (y.toNat : Int) < x.toNat := by have := UInt8.lt_iff_toNat_lt.1 hyx; omega
          clear hyx
          go_quiet (fail)
          go_wp2
          go_ret
          exact ⟨by rw [HS.out]; rfl, n2 + nq, by rw [HW2.out]; simp⟩
        · rw [if_neg hyx] at HS
          have hj : ¬ (y.toNat : Int) < x.toNat := fun e => hyx (UInt8.lt_iff_toNat_lt.2 (by omega))
          have hj1 : decide ((y.toNat : Int) < x.toNat) = false := by simpa using hj
          clear hyx
          go_quiet (fail)
          go_wp2
          go_roundw
          case rel => exact ⟨k + 1, n2 + nq, by omega, by omega, by go_num, by rw [HW2.out]; simp, HS.out⟩
          case measure => simp [intOf]; omega
    · have HE : Hid (compareBytes p q = if lp < lq then -1 else if lq < lp then 1 else 0) := by
        show _ = _
        rw [HR.out, HP.out, HQ.out]
        exact cmp_end p q k (by rw [← HP.out]; exact hkp) (by rw [← HQ.out]; exact hkq) (by rw [← HP.out, ← HQ.out]; exact hlt)
      clear HA HB HR
      by_cases h1 : lp < lq
      · rw [if_pos h1] at HE
        have h2 : ¬ k < lp := by omega
        clear hlt
        go_wp2
        go_ret
        exact ⟨by rw [HE.out]; rfl, n, HW.out⟩
      · rw [if_neg h1] at HE
        by_cases h2 : lq < lp
        · rw [if_pos h2] at HE
          have h3 : ¬ k < lq := by omega
          have h4 : k < lp := by omega
          clear hlt
          go_wp2
          go_ret
          exact ⟨by rw [HE.out]; rfl, n, HW.out⟩
        · rw [if_neg h2] at HE
          have h3 : ¬ k < lp := by omega
          clear hlt
          go_wp2
          go_ret
          exact ⟨by rw [HE.out]; rfl, n, HW.out⟩
end Go.Proofs.Qxb6630095a
