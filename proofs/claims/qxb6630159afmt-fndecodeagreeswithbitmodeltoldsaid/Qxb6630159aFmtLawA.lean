import Derived.Test.Qxb6630159aFmtWidth
namespace Go.Proofs.Qxb6630159aFmt
open Go.RowKit
set_option linter.unusedVariables false

theorem bytes12_yes (e d n : Int) (p : Bool) (a : Option Addr) (len cap : Nat) (rt pr : Int) (h : len ≤ 1048576) (w : World) :
    Calls Tryf.prog 12 #[.int .i64 e, .int .i64 d, .int .i64 n, .bool p, .slice a len cap, .int .i64 rt, .int .i64 pr] w fun e w' => e = .returned (.bool true) ∧ w = w' := by
  go_enter Tryf.func12, Tryf.ntmps12
  go_wp2
  go_ret
  exact ⟨rfl, rfl⟩
theorem bytes12_no (e d n : Int) (p : Bool) (a : Option Addr) (len cap : Nat) (rt pr : Int) (h : 1048576 < len) (w : World) :
    Calls Tryf.prog 12 #[.int .i64 e, .int .i64 d, .int .i64 n, .bool p, .slice a len cap, .int .i64 rt, .int .i64 pr] w fun e w' => e = .returned (.bool false) ∧ w = w' := by
  go_enter Tryf.func12, Tryf.ntmps12
  go_wp2
  go_ret
  exact ⟨rfl, rfl⟩

/-- what Decode answers, cell by cell -/
def Got (bs : List Nat) (len n W bound : Nat) (pr eps delta : Nat) (R : Int) (w' : World) (lo : Nat) (p e d r : Int) (sa : Option Addr) (sl sc : Nat) (s x : Bool) (er : Value) : Prop :=
  (OK bs len n W bound ∧ ∃ g, lo ≤ g ∧ w'.rowIs g 3 n (ent bs W n) ∧ p = pr ∧ e = eps ∧ d = delta ∧ r = R ∧ sa = some ⟨g, 0, none⟩ ∧ n = sl ∧ n = sc ∧ s = false ∧ x = false ∧ er = .nilIface) ∨
  (¬ OK bs len n W bound ∧ ∃ q, p = 0 ∧ e = 0 ∧ d = 0 ∧ r = 0 ∧ sa = none ∧ sl = 0 ∧ sc = 0 ∧ s = false ∧ x = false ∧ er = .iface 48 (.pointer (some q)))
theorem Res.got {bs : List Nat} {len n W bound pr eps delta : Nat} {R : Int} {w w' : World} {z : Ending} (h : Res bs len n W bound pr eps delta R w z w') :
    ∃ p e d r sa sl sc s x er, z = .returned (.tuple #[.agg #[.int .i64 p, .int .i64 e, .int .i64 d, .int .i64 r, .slice sa sl sc, .bool s, .bool x], er]) ∧ Hid (Got bs len n W bound pr eps delta R w' w.heap.size p e d r sa sl sc s x er) := by
  rcases h with ⟨hok, g, hg, rfl, hrow⟩ | ⟨hno, q, rfl⟩
  · exact ⟨_, _, _, _, _, _, _, _, _, _, rfl, .inl ⟨hok, g, hg, hrow, rfl, rfl, rfl, rfl, rfl, rfl, rfl, rfl, rfl, rfl⟩⟩
  · exact ⟨_, _, _, _, _, _, _, _, _, _, rfl, .inr ⟨hno, q, rfl, rfl, rfl, rfl, rfl, rfl, rfl, rfl, rfl, rfl⟩⟩
theorem seven {w w' : World} {p e d r : Int} {sa : Option Addr} {sl sc : Nat} {s x : Bool} (hb : Below (w.heap.size + 1) (w.alloc (.cells #[.int .i64 p, .int .i64 e, .int .i64 d, .int .i64 r, .slice sa sl sc, .bool s, .bool x] 32)) w') :
    w'.cell? ⟨w.heap.size, 0, none⟩ = some (.int .i64 p) ∧ w'.cell? ⟨w.heap.size, 1, none⟩ = some (.int .i64 e) ∧ w'.cell? ⟨w.heap.size, 2, none⟩ = some (.int .i64 d) ∧ w'.cell? ⟨w.heap.size, 3, none⟩ = some (.int .i64 r) ∧
    w'.cell? ⟨w.heap.size, 4, none⟩ = some (.slice sa sl sc) ∧ w'.cell? ⟨w.heap.size, 5, none⟩ = some (.bool s) ∧ w'.cell? ⟨w.heap.size, 6, none⟩ = some (.bool x) := by
  refine ⟨?_, ?_, ?_, ?_, ?_, ?_, ?_⟩ <;> (rw [hb.cell (by simp)]; simp)

set_option maxRecDepth 100000 in
set_option maxHeartbeats 1000000 in
theorem lawA_main (eps delta n : Nat) (packed : Bool) (a : Option Addr) (len cap : Nat) (bs : List Nat) (rt : Int) (pr bound back : Nat) (w : World) (hR : Row w a len bs) (hl : len ≤ 1048576) (he : eps ≤ 268435456) (hd : delta ≤ 268435456) (hn1 : 1 ≤ n) (hn : n ≤ 65536) (hpr : pr < n)
    (hB : bound = 6 * eps + delta + 1) (hK : back = 2 * eps + delta) (hr1 : -9223372036854775808 + (back : Int) ≤ rt) (hr2 : rt ≤ 9223372036854775807 - ((bound : Int) - 1 - back) - bound) :
    Calls Tryf.prog 4 #[.int .i64 (eps : Int), .int .i64 (delta : Int), .int .i64 (n : Int), .bool packed, .slice a len cap, .int .i64 rt, .int .i64 (pr : Int)] w fun e w' => e = .returned (.bool true) ∧ Below w.heap.size w w' := by
  have HR : Hid (Row w a len bs) := hR
  have hbe : 6 * (eps : Int) + delta + 1 = bound := by omega
  have hba : 2 * (eps : Int) + delta = back := by omega
  have HB : Hid (bound = 6 * eps + delta + 1) := hB
  have HK : Hid (back = 2 * eps + delta) := hK
  have b1 : 1 ≤ bound := by omega
  have b2 : bound ≤ 2000000000 := by omega
  have b3 : back ≤ 2000000000 := by omega
  have hnil := fun w => Go.run_eql_slice_nil (P := Tryf.prog) w 30 3 none 0 0 Tryf.underlying30
  clear hR hB hK
  go_enter Tryf.func4, Tryf.ntmps4
  go_wp2_with (go_at_call 12; refine (bytes12_yes _ _ _ _ _ _ _ _ _ hl _).mono ?_; rintro e w' ⟨rfl, hw⟩; subst hw)
  refine (width_any bound packed b1 (by omega) _).mono ?_
  rintro e w' ⟨⟨W, hW, rfl⟩, hw⟩
  subst hw
  go_wp2_with fail
  refine (new_any _ _ _ _ _).mono ?_
  rintro e w1 ⟨rfl, hw⟩
  have HE1 : Hid (Enc w1 w.heap.size eps delta n W) := by
    rw [hw]
    exact ⟨by simp, by simp, by simp, by simp, by simp⟩
  have B1 : Below w.heap.size w w1 := by rw [hw]; exact (Below.refl _ _).alloc (Nat.le_refl _) _
  have HR1 : Hid (Row w1 a len bs) := HR.out.later B1
  clear hw HR
  go_wp2_with fail
  refine (decode_any w.heap.size eps delta n W a len cap pr bound back bs rt _ HE1.out HR1.out hpr hn hl hW he hd HB.out HK.out hr1 (by omega)).mono ?_
  rintro e w2 ⟨hres1, C2⟩
  have B2 : Below w.heap.size w w2 := B1.trans (C2.mono B1.size)
  have HE2 : Hid (Enc w2 w.heap.size eps delta n W) := HE1.out.later C2 HE1.out.lt
  have HR2 : Hid (Row w2 a len bs) := HR1.out.later C2
  clear C2 B1 HR1 HE1
  obtain ⟨p1, e1, d1, r1, sa1, sl1, sc1, s1, x1, er1, rfl, G1⟩ := hres1.got
  clear hres1
  go_wp2_with fail
  refine (decode_any w.heap.size eps delta n W a len cap pr bound back bs (rt + bound) _ (HE2.out.later ((Below.refl _ w2).alloc (Nat.le_refl _) _) HE2.out.lt) (HR2.out.later ((Below.refl _ w2).alloc (Nat.le_refl _) _)) hpr hn hl hW he hd HB.out HK.out (by omega) (by omega)).mono ?_
  rintro e w3 ⟨hres2, C3⟩
  have C3' := C3.mono (show w2.heap.size + 1 ≤ _ by simp)
  obtain ⟨z0, z1, z2, z3, z4, z5, z6⟩ := seven C3'
  have lt3 : w2.heap.size < w3.heap.size := Nat.lt_of_lt_of_le (by simp) C3'.size
  have D3 : Below w2.heap.size w2 w3 := ((Below.refl _ w2).alloc (Nat.le_refl _) _).trans (C3'.mono (Nat.le_succ _))
  obtain ⟨p2, e2, d2, r2, sa2, sl2, sc2, s2, x2, er2, rfl, G2⟩ := hres2.got
  clear hres2 C3 C3' HE2 HR2
  go_wp2_with fail
  refine (parts_any p1 e1 d1 r1 sa1 sl1 sc1 s1 x1 _).mono ?_
  rintro e w4 ⟨rfl, C4⟩
  have C4' := C4.mono (show w3.heap.size + 1 ≤ _ by simp)
  obtain ⟨y0, y1, y2, y3, y4, y5, y6⟩ := seven C4'
  have lt4 : w3.heap.size < w4.heap.size := Nat.lt_of_lt_of_le (by simp) C4'.size
  have D4 : Below w3.heap.size w3 w4 := ((Below.refl _ w3).alloc (Nat.le_refl _) _).trans (C4'.mono (Nat.le_succ _))
  clear C4 C4' z0 z1 z2 z3 z4 z5 z6
  go_wp2_with fail
  refine (parts_any p2 e2 d2 r2 sa2 sl2 sc2 s2 x2 _).mono ?_
  rintro e w5 ⟨rfl, C5⟩
  have D5 : Below w3.heap.size w3 w5 := D4.trans (C5.mono D4.size)
  have D5' : Below w2.heap.size w2 w5 := D3.trans (D5.mono (Nat.le_of_lt lt3))
  have B5 : Below w.heap.size w w5 := B2.trans (D5'.mono B2.size)
  clear C5 D4 D3 B2 y0 y1 y2 y3 y4 y5 y6 lt4
  rcases G1.out with ⟨hok, g1, hg1, hrow1, rfl, rfl, rfl, hr, rfl, rfl, rfl, rfl, rfl, rfl⟩ | ⟨hno, q1, rfl, rfl, rfl, rfl, rfl, rfl, rfl, rfl, rfl, rfl⟩
  · rcases G2.out with ⟨_, g2, hg2, hrow2, rfl, rfl, rfl, hr', rfl, rfl, rfl, rfl, rfl, rfl⟩ | ⟨hno, _⟩
    · have row1 := hrow1.of_block (D5'.block _ hrow1.lt)
      have row2 := hrow2.of_block (D5.block _ hrow2.lt)
      clear G1 G2 hrow1 hrow2 D5 D5' lt3
      have HR : Hid (r1 = reb (fld bs (pr * W) W : Nat) rt bound back) := hr
      have HR' : Hid (r2 = r1 + bound) := by
        show r2 = _
        rw [hr', reb_shift, ← hr]
      clear hr hr'
      go_wp2_with fail
      go_quiet (fail)
      generalize hw6 : w5.drewN nq = w6
      have row1' : w6.rowIs g1 3 n (ent bs W n) := by rw [← hw6]; exact World.rowIs.of_block row1 rfl
      have row2' : w6.rowIs g2 3 n (ent bs W n) := by rw [← hw6]; exact World.rowIs.of_block row2 rfl
      have B6 : Below w.heap.size w w6 := by rw [← hw6]; exact B5.trans ((below_draws _ _).mono B5.size)
      clear hw6 row1 row2 B5
      go_wp2_with fail
      go_loopw [37] (fun i wr => ∃ k : Nat, k ≤ n ∧ i = .int .i64 k ∧ wr.rowIs g1 3 n (ent bs W n) ∧ wr.rowIs g2 3 n (ent bs W n) ∧ Below w.heap.size w wr) (fun i _ => n - (intOf i).toNat)
      case atStart => exact ⟨0, Nat.zero_le _, rfl, row1', row2', B6⟩
      case round =>
        obtain ⟨k, hk, rfl, row1, row2, BR⟩ := hrel
        clear row1' row2' B6
        by_cases hlt : k < n
        · have k1 := row1.cell hlt
          have k2 := row2.cell hlt
          rw [show ent bs W n k = .int .i64 ((fld bs (k * W) W : Nat) : Int) from if_pos hlt] at k1 k2
          go_wp2_with fail
          go_quiet (fail)
          go_wp2
          go_roundw
          case rel => exact ⟨k + 1, by omega, by go_num, World.rowIs.of_block row1 rfl, World.rowIs.of_block row2 rfl, BR.trans ((below_draws _ _).mono BR.size)⟩
          case measure => simp [intOf]; omega
        · have k1 := row1.cell hpr
          obtain ⟨c, hc⟩ : ∃ c, c = fld bs (pr * W) W := ⟨_, rfl⟩
          rw [show ent bs W n pr = .int .i64 ((fld bs (pr * W) W : Nat) : Int) from if_pos hpr, ← hc] at k1
          have hcb : c < bound := by rw [hc]; exact hok.2.1 pr hpr
          have q1 := reb_law (c : Int) rt bound back (by omega) (by omega) (by omega)
          have q2 := reb_bd (c : Int) rt bound back (by omega)
          have hrc : r1 = reb (c : Int) rt bound back := by rw [hc]; exact HR.out
          rw [← hrc] at q1 q2
          have h2r := HR'.out
          subst h2r
          have Q1 : Hid (((rt - back) % bound + (r1 - (rt - back))) % bound = c) := q1
          clear hc hrc q1 HR HR' row1 row2
          obtain ⟨q2, q3⟩ := q2
          go_wp2_with (go_at_call 11; refine (rebuilt_true r1 (c : Int) (rt - back) bound (by omega) (by omega) (by omega) (by omega) (by omega) (by omega) Q1.out (by omega) (by omega) _).mono ?_; rintro e w' ⟨rfl, hw⟩; subst hw)
          go_ret
          exact ⟨rfl, BR⟩
    · exact absurd hok hno
  · rcases G2.out with ⟨hok, _⟩ | ⟨_, q2, rfl, rfl, rfl, rfl, rfl, rfl, rfl, rfl, rfl, rfl⟩
    · exact absurd hok hno
    · clear G1 G2 D5 D5' lt3
      go_wp2_with fail
      go_quiet (fail)
      go_wp2
      go_ret
      exact ⟨rfl, B5.trans ((below_draws _ _).mono B5.size)⟩

set_option maxRecDepth 100000 in
set_option maxHeartbeats 1000000 in
theorem lawA_walk (eps delta n : Int) (packed : Bool) (a : Option Addr) (len cap : Nat) (bs : List Nat) (rt process : Int) (w0 : (Lit.int .i64 eps).wf = true) (w1 : (Lit.int .i64 delta).wf = true) (w2 : (Lit.int .i64 n).wf = true) (w5 : (Lit.int .i64 rt).wf = true) (w6 : (Lit.int .i64 process).wf = true) (w : World) (hb : Row w a len bs) :
    Calls Tryf.prog 4 #[.int .i64 eps, .int .i64 delta, .int .i64 n, .bool packed, .slice a len cap, .int .i64 rt, .int .i64 process] w fun e w' => e = .returned (.bool true) ∧ Below w.heap.size w w' := by
  clear w0 w1 w2 w5 w6
  have HR : Hid (Row w a len bs) := hb
  clear hb
  by_cases hl : len ≤ 1048576
  case neg =>
    have hl' : 1048576 < len := by omega
    go_enter Tryf.func4, Tryf.ntmps4
    go_wp2_with (go_at_call 12; refine (bytes12_no _ _ _ _ _ _ _ _ _ hl' _).mono ?_; rintro e w' ⟨rfl, hw⟩; subst hw)
    go_ret
    exact ⟨rfl, Below.refl _ _⟩
  by_cases h1 : eps < 0
  · go_enter Tryf.func4, Tryf.ntmps4
    go_wp2_with (go_at_call 12; refine (bytes12_yes _ _ _ _ _ _ _ _ _ hl _).mono ?_; rintro e w' ⟨rfl, hw⟩; subst hw)
    go_ret
    exact ⟨rfl, Below.refl _ _⟩
  by_cases h2 : eps > 268435456
  · go_enter Tryf.func4, Tryf.ntmps4
    go_wp2_with (go_at_call 12; refine (bytes12_yes _ _ _ _ _ _ _ _ _ hl _).mono ?_; rintro e w' ⟨rfl, hw⟩; subst hw)
    go_ret
    exact ⟨rfl, Below.refl _ _⟩
  by_cases h3 : delta < 0
  · go_enter Tryf.func4, Tryf.ntmps4
    go_wp2_with (go_at_call 12; refine (bytes12_yes _ _ _ _ _ _ _ _ _ hl _).mono ?_; rintro e w' ⟨rfl, hw⟩; subst hw)
    go_ret
    exact ⟨rfl, Below.refl _ _⟩
  by_cases h4 : delta > 268435456
  · go_enter Tryf.func4, Tryf.ntmps4
    go_wp2_with (go_at_call 12; refine (bytes12_yes _ _ _ _ _ _ _ _ _ hl _).mono ?_; rintro e w' ⟨rfl, hw⟩; subst hw)
    go_ret
    exact ⟨rfl, Below.refl _ _⟩
  by_cases h5 : n < 1
  · go_enter Tryf.func4, Tryf.ntmps4
    go_wp2_with (go_at_call 12; refine (bytes12_yes _ _ _ _ _ _ _ _ _ hl _).mono ?_; rintro e w' ⟨rfl, hw⟩; subst hw)
    go_ret
    exact ⟨rfl, Below.refl _ _⟩
  by_cases h6 : n > 65536
  · go_enter Tryf.func4, Tryf.ntmps4
    go_wp2_with (go_at_call 12; refine (bytes12_yes _ _ _ _ _ _ _ _ _ hl _).mono ?_; rintro e w' ⟨rfl, hw⟩; subst hw)
    go_ret
    exact ⟨rfl, Below.refl _ _⟩
  by_cases h7 : process < 0
  · go_enter Tryf.func4, Tryf.ntmps4
    go_wp2_with (go_at_call 12; refine (bytes12_yes _ _ _ _ _ _ _ _ _ hl _).mono ?_; rintro e w' ⟨rfl, hw⟩; subst hw)
    go_ret
    exact ⟨rfl, Below.refl _ _⟩
  by_cases h8 : n ≤ process
  · go_enter Tryf.func4, Tryf.ntmps4
    go_wp2_with (go_at_call 12; refine (bytes12_yes _ _ _ _ _ _ _ _ _ hl _).mono ?_; rintro e w' ⟨rfl, hw⟩; subst hw)
    go_ret
    exact ⟨rfl, Below.refl _ _⟩
  obtain ⟨E, rfl⟩ := Int.eq_ofNat_of_zero_le (show 0 ≤ eps by omega)
  obtain ⟨D, rfl⟩ := Int.eq_ofNat_of_zero_le (show 0 ≤ delta by omega)
  obtain ⟨N, rfl⟩ := Int.eq_ofNat_of_zero_le (show 0 ≤ n by omega)
  obtain ⟨P, rfl⟩ := Int.eq_ofNat_of_zero_le (show 0 ≤ process by omega)
  by_cases h9 : rt < -9223372036854775808 + (2 * (E : Int) + D)
  · go_enter Tryf.func4, Tryf.ntmps4
    go_wp2_with (go_at_call 12; refine (bytes12_yes _ _ _ _ _ _ _ _ _ hl _).mono ?_; rintro e w' ⟨rfl, hw⟩; subst hw)
    go_ret
    exact ⟨rfl, Below.refl _ _⟩
  by_cases h10 : 9223372036854775807 - ((6 * (E : Int) + D + 1) - 1 - (2 * (E : Int) + D)) - (6 * (E : Int) + D + 1) < rt
  · go_enter Tryf.func4, Tryf.ntmps4
    go_wp2_with (go_at_call 12; refine (bytes12_yes _ _ _ _ _ _ _ _ _ hl _).mono ?_; rintro e w' ⟨rfl, hw⟩; subst hw)
    go_ret
    exact ⟨rfl, Below.refl _ _⟩
  exact lawA_main E D N packed a len cap bs rt P (6 * E + D + 1) (2 * E + D) w HR.out hl (by omega) (by omega) (by omega) (by omega) (by omega) rfl rfl (by omega) (by omega)
end Go.Proofs.Qxb6630159aFmt
