import Derived.Test.Qxb6630159aFmtPad
import Derived.Deep.OwnRows
import Derived.RegionTactic
import Derived.ChangeAlike
namespace Go.Proofs.Qxb6630159aFmt
open Go.RowKit
set_option linter.unusedVariables false

/-- b is an encoding of n entries of W bits, each below bound, the rest nought -/
def OK (bs : List Nat) (len n W bound : Nat) : Prop := len = (n * W + 7) / 8 ∧ (∀ k, k < n → fld bs (k * W) W < bound) ∧ PadOK bs len (n * W)

def zero32 : Array Value := #[.int .i64 0, .int .i64 0, .int .i64 0, .int .i64 0, .slice none 0 0, .bool false, .bool false]
def good (pr eps delta r : Int) (g n : Nat) : Value := .tuple #[.agg #[.int .i64 pr, .int .i64 eps, .int .i64 delta, .int .i64 r, .slice (some ⟨g, 0, none⟩) n n, .bool false, .bool false], .nilIface]
def bad (p : Addr) : Value := .tuple #[.agg zero32, .iface 48 (.pointer (some p))]

/-- the encoding's cells -/
structure Enc (w : World) (be : Nat) (eps delta n W : Nat) : Prop where
  lt : be < w.heap.size
  c0 : w.cell? ⟨be, 0, none⟩ = some (.int .i64 (eps : Int))
  c1 : w.cell? ⟨be, 1, none⟩ = some (.int .i64 (delta : Int))
  c2 : w.cell? ⟨be, 2, none⟩ = some (.int .i64 (n : Int))
  c3 : w.cell? ⟨be, 3, none⟩ = some (.int .i64 (W : Int))
theorem Enc.later {w w' : World} {be eps delta n W : Nat} (h : Enc w be eps delta n W) {B : Nat} (hb : Below B w w') (hB : be < B) : Enc w' be eps delta n W :=
  ⟨Nat.lt_of_lt_of_le h.lt hb.size, (hb.cell (by exact hB)).trans h.c0, (hb.cell (by exact hB)).trans h.c1, (hb.cell (by exact hB)).trans h.c2, (hb.cell (by exact hB)).trans h.c3⟩

theorem info3 : (Tryf.prog.info? 3).map (fun i => (i.zero, i.size, i.bytes)) = some (some (.int .i64 0), 1, 8) := by kernel_rfl
theorem below_draws (w : World) (n : Nat) : Below w.heap.size w (w.drewN n) := by
  induction n with
  | zero => exact Below.refl _ _
  | succ n ih => exact ih.drew

theorem zeros_at {w w' : World} (hb : Below (w.heap.size + 1) (w.alloc (.cells zero32 32)) w') :
    w'.cell? ⟨w.heap.size, 0, none⟩ = some (.int .i64 0) ∧ w'.cell? ⟨w.heap.size, 1, none⟩ = some (.int .i64 0) ∧ w'.cell? ⟨w.heap.size, 2, none⟩ = some (.int .i64 0) ∧ w'.cell? ⟨w.heap.size, 3, none⟩ = some (.int .i64 0) ∧
    w'.cell? ⟨w.heap.size, 4, none⟩ = some (.slice none 0 0) ∧ w'.cell? ⟨w.heap.size, 5, none⟩ = some (.bool false) ∧ w'.cell? ⟨w.heap.size, 6, none⟩ = some (.bool false) := by
  refine ⟨?_, ?_, ?_, ?_, ?_, ?_, ?_⟩ <;> (rw [hb.cell (by simp)]; simp [zero32])
theorem frozen_at {w w' : World} (hb : Below (w.heap.size + 1) (w.alloc (.cells zero32 32)) w') (i : Nat) : w'.frozen? ⟨w.heap.size, i, none⟩ = false := by
  rw [hb.frozen (by simp)]
  exact World.frozen?_alloc_at _ _ _ _ rfl

set_option maxRecDepth 100000 in
set_option maxHeartbeats 1000000 in
/-- the length is wrong -/
theorem dec_len (be eps delta n W : Nat) (a : Option Addr) (len cap pr P : Nat) (rt : Int) (w : World) (hE : Enc w be eps delta n W) (hP : n * W = P) (hPl : P ≤ 4000000) (hpr : pr < n) (hn : n ≤ 65536) (hl : len ≤ 2000000) (hne : len ≠ (P + 7) / 8) :
    Calls Tryf.prog 9 #[.pointer (some ⟨be, 0, none⟩), .slice a len cap, .int .i64 rt, .int .i64 (pr : Int)] w fun e w' => (∃ p, e = .returned (bad p)) ∧ Below w.heap.size w w' := by
  obtain ⟨lt, c0, c1, c2, c3⟩ := hE
  have hP' : (n : Int) * W = P := by rw [← hP]; simp
  have hpi : (pr : Int) < n := by omega
  have hni : (len : Int) ≠ ((P + 7) / 8 : Nat) := by omega
  have HP : Hid ((n : Int) * W = P) := hP'
  clear hP hP' hne
  go_enter Tryf.func9, Tryf.ntmps9
  go_wp2_with (go_at_call 17; refine (len_any be n W P _ (by go_simp) (by go_simp) HP.out hPl).mono ?_; rintro e w' ⟨rfl, q, rfl⟩)
  refine (wrongLength_any _ _ _ _).mono ?_
  rintro e w' ⟨⟨p, rfl⟩, hb⟩
  have hB : Below (w.heap.size + 1) (w.alloc (.cells zero32 32)) w' := by
    refine Below.trans ?_ (hb.mono (by simp))
    exact ⟨rfl, rfl, rfl, Nat.le_refl _, fun _ _ => rfl⟩
  obtain ⟨z0, z1, z2, z3, z4, z5, z6⟩ := zeros_at hB
  have f0 := frozen_at hB 0
  have f1 := frozen_at hB 1
  have f2 := frozen_at hB 2
  have f3 := frozen_at hB 3
  have f4 := frozen_at hB 4
  have f5 := frozen_at hB 5
  have f6 := frozen_at hB 6
  have B0 : Below w.heap.size w w' := ((Below.refl _ w).alloc (Nat.le_refl _) _).trans (hB.mono (Nat.le_succ _))
  clear hb hB
  go_wp2
  refine bodyPost_ret (v := bad p) (by simp [results, Tryf.results9, go_sem, bad, zero32, z0, z1, z2, z3, z4, z5, z6]) rfl ⟨⟨p, rfl⟩, ?_⟩
  go_grown

theorem past2 {w2 : World} {b : Nat} (h : b < w2.heap.size) (o1 o2 : Obj) (i : Nat) : ((w2.alloc o1).alloc o2).cell? ⟨b, i, none⟩ = w2.cell? ⟨b, i, none⟩ :=
  (World.cell?_alloc_past _ _ _ (by simp; omega)).trans (World.cell?_alloc_past _ _ _ h)
theorem past2f {w2 : World} {b : Nat} (h : b < w2.heap.size) (o1 o2 : Obj) (i : Nat) : ((w2.alloc o1).alloc o2).frozen? ⟨b, i, none⟩ = w2.frozen? ⟨b, i, none⟩ :=
  (World.frozen?_alloc_past _ _ _ (by simp; omega)).trans (World.frozen?_alloc_past _ _ _ h)

theorem info32 : (Tryf.prog.info? 32).map (·.size) = some 7 := by kernel_rfl
theorem zblock {w w2 : World} (hb : Below (w.heap.size + 1) (w.alloc (.cells zero32 32)) w2) : w2.heap[w.heap.size]? = some (.cells zero32 32 (0, 0)) :=
  (hb.block w.heap.size (Nat.lt_succ_self _)).trans (MapKept.heap_alloc w _).1
theorem zblock2 {w w2 : World} (hb : Below (w.heap.size + 1) (w.alloc (.cells zero32 32)) w2) (o1 o2 : Obj) : ((w2.alloc o1).alloc o2).heap[w.heap.size]? = some (.cells zero32 32 (0, 0)) := by
  have h := zblock hb
  have hlt : w.heap.size < w2.heap.size := (Array.getElem?_eq_some_iff.1 h).1
  rw [Below.heap_alloc _ _ _ (by simp; omega), Below.heap_alloc _ _ _ hlt, h]

theorem one32 : zero32.all (·.oneCell') = true := by kernel_rfl
theorem info32z : (Tryf.prog.info? 32).map (·.size) = some zero32.size := by kernel_rfl

theorem spr3 (x y z : Int) (w : World) : ∃ s : ByteArray, (callFunc 16 #[.string ⟨#[101, 110, 116, 114, 121, 32, 37, 100, 32, 105, 115, 32, 37, 100, 44, 32, 109, 117, 115, 116, 32, 98, 101, 32, 98, 101, 108, 111, 119, 32, 66, 32, 61, 32, 37, 100]⟩, .slice (some ⟨w.heap.size, 0, none⟩) 3 3]).run Tryf.prog (w.alloc (.cells #[.iface 3 (.int .i64 x), .iface 39 (.int .u64 y), .iface 3 (.int .i64 z)] 20)) =
    .ok (.value (.string s)) (w.alloc (.cells #[.iface 3 (.int .i64 x), .iface 39 (.int .u64 y), .iface 3 (.int .i64 z)] 20)).drew := by
  have h1 := call16
  have h2 := guardF
  have h3 := fmtEnt
  have h4 := op3
  have h5 := op39
  go_simp

theorem make30 (n : Nat) (hn : n ≤ 65536) (w : World) : (Instr.makeSlice 30 (.int .i64 (n : Int)) (.int .i64 (n : Int))).run Tryf.prog w = .ok (.slice (some ⟨w.heap.size, 0, none⟩) n n) (w.alloc (.cells (madeCells #[.int .i64 0] n) 3)) :=
  run_make_row' 30 3 (.int .i64 0) 8 Tryf.underlying30 info3 rfl .i64 .i64 n (by omega) (by omega) w

/-- the first k entries are laid -/
def ent (bs : List Nat) (W k j : Nat) : Value := if j < k then .int .i64 ((fld bs (j * W) W : Nat) : Int) else .int .i64 0
theorem ent_step (bs : List Nat) (W k j : Nat) : (if j = k then .int .i64 ((fld bs (k * W) W : Nat) : Int) else ent bs W k j) = ent bs W (k + 1) j := by
  unfold ent
  by_cases h : j = k
  · subst h; rw [if_pos rfl, if_pos (by omega)]
  · rw [if_neg h]
    by_cases h2 : j < k
    · rw [if_pos h2, if_pos (by omega)]
    · rw [if_neg h2, if_neg (by omega)]

def Res (bs : List Nat) (len n W bound : Nat) (pr eps delta : Nat) (r : Int) (w : World) (e : Ending) (w' : World) : Prop :=
  (OK bs len n W bound ∧ ∃ g, w.heap.size ≤ g ∧ e = .returned (good pr eps delta r g n) ∧ w'.rowIs g 3 n (ent bs W n)) ∨ (¬ OK bs len n W bound ∧ ∃ p, e = .returned (bad p))

set_option maxRecDepth 100000 in
set_option maxHeartbeats 600000 in
theorem dec_main (be eps delta n W : Nat) (a : Option Addr) (len cap pr P bound back : Nat) (bs : List Nat) (rt : Int) (w : World) (hE : Enc w be eps delta n W) (hR : Row w a len bs) (hP : n * W = P) (hPl : P ≤ 4000000) (hpr : pr < n) (hn : n ≤ 65536) (hl : len ≤ 1048576) (hlen : len = (P + 7) / 8)
    (hW : W ≤ 32) (he : eps ≤ 268435456) (hd : delta ≤ 268435456) (hB : bound = 6 * eps + delta + 1) (hK : back = 2 * eps + delta) (hr1 : -9223372036854775808 + (back : Int) ≤ rt) (hr2 : rt ≤ 9223372036854775807 - ((bound : Int) - 1 - back)) :
    Calls Tryf.prog 9 #[.pointer (some ⟨be, 0, none⟩), .slice a len cap, .int .i64 rt, .int .i64 (pr : Int)] w fun e w' => Res bs len n W bound pr eps delta (reb (fld bs (pr * W) W : Nat) rt bound back) w e w' ∧ Below w.heap.size w w' := by
  have hP' : (n : Int) * W = P := by rw [← hP]; simp
  have hpi : (pr : Int) < n := by omega
  have hni : (len : Int) = ((P + 7) / 8 : Nat) := by omega
  have HP : Hid ((n : Int) * W = P) := hP'
  have HPn : Hid (n * W = P) := hP
  have HNI : Hid ((len : Int) = ((P + 7) / 8 : Nat)) := hni
  have HE : Hid (Enc w be eps delta n W) := hE
  have HR : Hid (Row w a len bs) := hR
  obtain ⟨lt, c0, c1, c2, c3⟩ := hE
  have hmk := make30 n hn
  have HBo : Hid (bound = 6 * eps + delta + 1) := hB
  have HBa : Hid (back = 2 * eps + delta) := hK
  have hbd : bound ≤ 2000000000 := by omega
  have hbe : 6 * (eps : Int) + delta + 1 = bound := by omega
  have HR1 : Hid (-9223372036854775808 + (back : Int) ≤ rt) := hr1
  have HR2 : Hid (rt ≤ 9223372036854775807 - ((bound : Int) - 1 - back)) := hr2
  have hP8 : P ≤ len * 8 := by omega
  clear hP hP' hlen hni hR hB hK hr1 hr2
  go_enter Tryf.func9, Tryf.ntmps9
  go_wp2_with (go_at_call 17; refine (len_any be n W P _ (by go_simp) (by go_simp) HP.out hPl).mono ?_; rintro e w' ⟨rfl, q, rfl⟩; rw [← HNI.out])
  go_quiet (fail)
  go_wp2_with fail
  clear hmk c0 c1 c2 c3
  go_loopw [12, 68] (fun x i wr => ∃ k o : Nat, k ≤ n ∧ i = .int .i64 k ∧ x = .int .i64 (o : Int) ∧ o = k * W ∧ wr.rowIs (w.heap.size + 1) 3 n (ent bs W k) ∧ Below (w.heap.size + 1) (w.alloc (.cells zero32 32)) wr ∧ ∀ j, j < k → fld bs (j * W) W < bound) (fun _ i _ => n - (intOf i).toNat)
  case atStart =>
    refine ⟨0, 0, Nat.zero_le _, rfl, rfl, by simp, ?_, ?_, fun j hj => by omega⟩
    · have h := World.rowIs_made (w.alloc (.cells zero32 32)) (.int .i64 0) n 3
      simp only [World.size_alloc] at h
      exact (World.rowIs.of_block h rfl).congr (fun j _ => by simp [ent])
    · exact Below.trans (b := (w.alloc (.cells zero32 32)).drewN (q + nq)) ⟨rfl, rfl, rfl, Nat.le_refl _, fun _ _ => rfl⟩ ((Below.refl _ _).alloc (by simp) _)
  case round =>
    obtain ⟨k, o, hk, rfl, rfl, ho, hrow, hBl, hall⟩ := hrel
    have HO : Hid (o = k * W) := ho
    have HALL : Hid (∀ j, j < k → fld bs (j * W) W < bound) := hall
    have B0 : Below w.heap.size w wr := ((Below.refl _ w).alloc (Nat.le_refl _) _).trans (hBl.mono (Nat.le_succ _))
    have hEr := HE.out.later B0 lt
    have HRr : Hid (Row wr a len bs) := HR.out.later B0
    clear ho hall
    by_cases hlt : k < n
    · obtain ⟨_, c0, c1, c2, c3⟩ := hEr
      have hoW : o + W ≤ P := by
        have h1 : (k + 1) * W ≤ n * W := Nat.mul_le_mul_right W (by omega)
        rw [Nat.succ_mul, ← HO.out, HPn.out] at h1
        exact h1
      have hki : (k : Int) < n := by omega
      obtain ⟨v, hv⟩ : ∃ v, v = fld bs o W := ⟨_, rfl⟩
      have hvl : v < 4294967296 := by
        have h1 := fld_lt bs o W
        have h2 : 2 ^ W ≤ 2 ^ 32 := Nat.pow_le_pow_right (by omega) hW
        rw [hv]; omega
      have HV : Hid (v = fld bs o W) := hv
      clear hv
      go_wp2_with fail
      refine (read_any a len cap bs o W _ HRr.out (by omega) hW (by omega)).mono ?_
      rintro e w2 ⟨rfl, q', hw2⟩
      rw [← HV.out]
      have hBl2 : Below (w.heap.size + 1) (w.alloc (.cells zero32 32)) w2 := by rw [hw2]; exact hBl.trans ⟨rfl, rfl, rfl, Nat.le_refl _, fun _ _ => rfl⟩
      have hrow2 : w2.rowIs (w.heap.size + 1) 3 n (ent bs W k) := by rw [hw2]; exact World.rowIs.of_block hrow rfl
      have hsz1 := hrow2.lt
      have hsz : w.heap.size < w2.heap.size := by omega
      have B2 : Below w.heap.size w w2 := ((Below.refl _ w).alloc (Nat.le_refl _) _).trans (hBl2.mono (Nat.le_succ _))
      clear hw2 hBl hrow B0 HRr c0 c1 c2 c3
      by_cases hbad : bound ≤ v
      · have HN : Hid (¬ OK bs len n W bound) := fun h => by
          have := h.2.1 k hlt
          rw [← HO.out, ← HV.out] at this
          omega
        obtain ⟨z0, z1, z2, z3, z4, z5, z6⟩ := zeros_at hBl2
        have HZ : Hid (w2.cell? ⟨w.heap.size, 0, none⟩ = some (.int .i64 0) ∧ w2.cell? ⟨w.heap.size, 1, none⟩ = some (.int .i64 0) ∧ w2.cell? ⟨w.heap.size, 2, none⟩ = some (.int .i64 0) ∧ w2.cell? ⟨w.heap.size, 3, none⟩ = some (.int .i64 0) ∧ w2.cell? ⟨w.heap.size, 4, none⟩ = some (.slice none 0 0) ∧ w2.cell? ⟨w.heap.size, 5, none⟩ = some (.bool false) ∧ w2.cell? ⟨w.heap.size, 6, none⟩ = some (.bool false)) := ⟨z0, z1, z2, z3, z4, z5, z6⟩
        have hblk := zblock2 hBl2
        clear z0 z1 z2 z3 z4 z5 z6
        have HB2 : Hid (∀ o1 o2 : Obj, ((w2.alloc o1).alloc o2).heap[w.heap.size]? = some (.cells zero32 32 (0, 0))) := hblk
        obtain ⟨S, hS⟩ := spr3 (k : Int) (v : Int) (bound : Int) w2
        clear hrow2 hBl2 hblk
        go_wp2_with (refine wpList_store_row rfl 32 (.tmp 8) (.tmp 85) rfl w.heap.size zero32 rfl rfl 32 zero32 (by exact HB2.out _ _) info32z rfl one32 ?_)
        rw [setRow_self _ w.heap.size zero32 32 (0, 0) (by exact HB2.out _ _)]
        obtain ⟨z0, z1, z2, z3, z4, z5, z6⟩ := HZ.out
        refine bodyPost_ret (v := bad ⟨w2.heap.size + 1, 0, none⟩) ?_ rfl ⟨.inr ⟨HN.out, _, rfl⟩, ?_⟩
        · simp [results, Tryf.results9, go_sem, bad, zero32, past2 hsz, z0, z1, z2, z3, z4, z5, z6]
        · go_grown
      · have e1 := hrow2.cell (i := k) hlt
        have ef := hrow2.frozen k
        clear lt
        go_wp2
        go_roundw
        case rel =>
          refine ⟨k + 1, o + W, by omega, by go_num, by go_num, by rw [HO.out, Nat.succ_mul], ?_, hBl2.setCell (Nat.le_refl _) _, ?_⟩
          · refine (hrow2.set k _).congr fun j _ => ?_
            rw [← ent_step, ← HO.out, ← HV.out]
          · intro j hj
            by_cases e : j = k
            · subst e; rw [← HO.out, ← HV.out]; omega
            · exact HALL.out j (by omega)
        case measure => simp [intOf]; omega
    · have hkn : k = n := by omega
      subst hkn
      have hoP : o = P := by rw [HO.out]; exact HPn.out
      have HOP : Hid (o = P) := hoP
      subst hoP
      have hsz1 := hrow.lt
      clear hEr lt
      go_wp2_with fail
      refine (pad_any _ a len cap bs o _ HRr.out hP8 (by omega)).mono ?_
      rintro e w3 ⟨hpad, C3⟩
      have hBl3 : Below (w.heap.size + 1) (w.alloc (.cells zero32 32)) w3 := hBl.trans (C3.mono (by omega))
      have hrow3 : w3.rowIs (w.heap.size + 1) 3 k (ent bs W k) := hrow.of_block (C3.block _ hsz1)
      have hsz3 := hrow3.lt
      have B3 : Below w.heap.size w w3 := ((Below.refl _ w).alloc (Nat.le_refl _) _).trans (hBl3.mono (Nat.le_succ _))
      clear hBl hrow B0 HRr C3 hsz1
      rcases hpad with ⟨hok, rfl⟩ | ⟨hno, p, rfl⟩
      · have HOK : Hid (OK bs len k W bound) := ⟨by rw [HPn.out]; have := HNI.out; omega, HALL.out, by rw [HPn.out]; exact hok⟩
        have hE3 := HE.out.later B3 HE.out.lt
        obtain ⟨_, c0, c1, c2, c3⟩ := hE3
        obtain ⟨c, hc⟩ : ∃ c, c = fld bs (pr * W) W := ⟨_, rfl⟩
        have hcl : c < bound := by rw [hc]; exact HALL.out pr hpr
        have g := hrow3.cell (i := pr) hpr
        have ge : ent bs W k pr = .int .i64 (c : Int) := by unfold ent; rw [if_pos hpr, hc]
        rw [ge] at g
        have HRB : Hid (∀ W' : World, Calls Tryf.prog 21 #[.int .i64 (c : Int), .int .i64 rt, .int .i64 (eps : Int), .int .i64 (delta : Int)] W' fun e w' => e = .returned (.int .i64 (reb (c : Int) rt bound back)) ∧ w' = W') := fun W' =>
          (rebuild_any (c : Int) rt eps delta bound back (by omega) (by omega) (by omega) (by omega) (by omega) (by have := HBa.out; omega) (by omega) (by omega) HR1.out HR2.out W').mono fun e w' ⟨h1, h2⟩ => ⟨h1, h2.symm⟩
        have HCC : Hid (c = fld bs (pr * W) W) := hc
        clear hc ge hok c2 c3
        go_wp2_with fail
        go_quiet ((go_at_call 21; exact Calls.quiet_of_same (HRB.out _)))
        generalize hw4 : w3.drewN nq = w4
        obtain ⟨r, hr⟩ : ∃ r, r = reb (c : Int) rt bound back := ⟨_, rfl⟩
        rw [← hr]
        have hBl4 : Below (w.heap.size + 1) (w.alloc (.cells zero32 32)) w4 := by rw [← hw4]; exact hBl3.trans ⟨rfl, rfl, rfl, Nat.le_refl _, fun _ _ => rfl⟩
        have hrow4 : w4.rowIs (w.heap.size + 1) 3 k (ent bs W k) := by rw [← hw4]; exact World.rowIs.of_block hrow3 rfl
        have d0 : w4.cell? ⟨be, 0, none⟩ = some (.int .i64 (eps : Int)) := by rw [← hw4]; exact c0
        have d1 : w4.cell? ⟨be, 1, none⟩ = some (.int .i64 (delta : Int)) := by rw [← hw4]; exact c1
        have B4 : Below w.heap.size w w4 := ((Below.refl _ w).alloc (Nat.le_refl _) _).trans (hBl4.mono (Nat.le_succ _))
        have HBE : Hid (be < w.heap.size) := HE.out.lt
        have hne : be ≠ w.heap.size := by have := HE.out.lt; omega
        have HR4 : Hid (r = reb (c : Int) rt bound back) := hr
        obtain ⟨z0, z1, z2, z3, z4, z5, z6⟩ := zeros_at hBl4
        have f0 := frozen_at hBl4 0
        have f1 := frozen_at hBl4 1
        have f2 := frozen_at hBl4 2
        have f3 := frozen_at hBl4 3
        have f4 := frozen_at hBl4 4
        have f5 := frozen_at hBl4 5
        have f6 := frozen_at hBl4 6
        clear hr hw4 c0 c1 g hBl3 hrow3 B3 hsz3 HRB
        go_wp2_with fail
        go_region
        go_wp2
        refine bodyPost_ret (v := good (pr : Int) eps delta r (w.heap.size + 1) k) ?_ rfl ⟨.inl ⟨HOK.out, w.heap.size + 1, Nat.le_succ _, ?_, ?_⟩, ?_⟩
        · simp [results, Tryf.results9, go_sem, good, z0, z1, z2, z3, z4, z5, z6]
        · rw [← HCC.out, ← HR4.out]
        · refine World.rowIs.drew ?_
          exact ((((((hrow4.setOther (by simp) _).setOther (by simp) _).setOther (by simp) _).setOther (by simp) _).setOther (by simp) _).setOther (by simp) _).setOther (by simp) _
        · go_grown
      · have HN : Hid (¬ OK bs len k W bound) := fun h => hno (by have := h.2.2; rw [HPn.out] at this; exact this)
        obtain ⟨z0, z1, z2, z3, z4, z5, z6⟩ := zeros_at hBl3
        have HZ : Hid (w3.cell? ⟨w.heap.size, 0, none⟩ = some (.int .i64 0) ∧ w3.cell? ⟨w.heap.size, 1, none⟩ = some (.int .i64 0) ∧ w3.cell? ⟨w.heap.size, 2, none⟩ = some (.int .i64 0) ∧ w3.cell? ⟨w.heap.size, 3, none⟩ = some (.int .i64 0) ∧ w3.cell? ⟨w.heap.size, 4, none⟩ = some (.slice none 0 0) ∧ w3.cell? ⟨w.heap.size, 5, none⟩ = some (.bool false) ∧ w3.cell? ⟨w.heap.size, 6, none⟩ = some (.bool false)) := ⟨z0, z1, z2, z3, z4, z5, z6⟩
        have HB3 : Hid (w3.heap[w.heap.size]? = some (.cells zero32 32 (0, 0))) := zblock hBl3
        clear z0 z1 z2 z3 z4 z5 z6 hno hrow3 hBl3
        go_wp2_with (refine wpList_store_row rfl 32 (.tmp 8) (.tmp 111) rfl w.heap.size zero32 rfl rfl 32 zero32 (by exact HB3.out) info32z rfl one32 ?_)
        rw [setRow_self _ w.heap.size zero32 32 (0, 0) (by exact HB3.out)]
        obtain ⟨z0, z1, z2, z3, z4, z5, z6⟩ := HZ.out
        refine bodyPost_ret (v := bad p) ?_ rfl ⟨.inr ⟨HN.out, _, rfl⟩, B3⟩
        simp [results, Tryf.results9, go_sem, bad, zero32, z0, z1, z2, z3, z4, z5, z6]
end Go.Proofs.Qxb6630159aFmt
