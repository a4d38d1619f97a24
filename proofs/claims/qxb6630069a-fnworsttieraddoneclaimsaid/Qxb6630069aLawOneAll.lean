import Derived.Test.Qxb6630069aLawOne
namespace Go.Proofs.Qxb6630069a
open Go.RowKit Go.Maps

/-- WHAT THE WALK IS TOLD OF A SLICE OF INTEGERS THAT CAME IN (the shell's own words). -/
def Row (k : IntKind) (w : World) (a : Option Addr) (len cap : Nat) (zs : List Int) : Prop :=
  (a = none ∧ len = 0 ∧ cap = 0 ∧ zs = []) ∨
  ∃ x, a = some x ∧ len ≤ cap ∧ cap ≤ maxLen ∧ zs.length = cap ∧ (∀ i, i < zs.length → w.cell? (x.add i) = some (.int k (zs.getD i 0))) ∧ ∀ n ∈ zs, (Lit.int k n).wf = true
theorem Row.le {k : IntKind} {w : World} {a : Option Addr} {len cap : Nat} {zs : List Int} (h : Row k w a len cap zs) : len ≤ maxLen := by
  rcases h with ⟨_, h, _⟩ | ⟨_, _, h1, h2, _⟩
  · rw [h]; exact Nat.zero_le _
  · exact Nat.le_trans h1 h2
theorem Row.open {k : IntKind} {w : World} {a : Option Addr} {len cap : Nat} {zs : List Int} (h : Row k w a len cap zs) (hp : 0 < len) :
    ∃ b o, a = some ⟨b, o, none⟩ ∧ b < w.heap.size ∧ (∀ j, j < len → w.cell? ⟨b, o + j, none⟩ = some (.int k (zs.getD j 0))) ∧ ∀ j, j < len → (Lit.int k (zs.getD j 0)).wf = true := by
  rcases h with ⟨_, h, _⟩ | ⟨x, rfl, h1, h2, hz, hc, hw⟩
  · omega
  · obtain ⟨b, o, spot⟩ := x
    have h0 := hc 0 (by omega)
    have hspot : spot = none := by simpa [Addr.add] using World.cell?_spot h0
    subst hspot
    refine ⟨b, o, rfl, ?_, fun j hj => by rw [← Go.WideShapes.add_plain]; exact hc j (by omega), fun j hj => ?_⟩
    · exact World.block_lt_of_cell? _ _ h0
    · have hj' : j < zs.length := by omega
      rw [show zs.getD j 0 = zs[j] by simp [List.getD, hj']]
      exact hw _ (List.getElem_mem hj')
theorem two_of {w : World} {a0 a1 : Option Addr} {l0 c0 l1 c1 n : Nat} {ks vs : List Int} (h0 : Row .i64 w a0 l0 c0 ks) (h1 : Row .i8 w a1 l1 c1 vs) (hn0 : n ≤ l0) (hn1 : n ≤ l1) (hp : 1 ≤ n) :
    ∃ b0 o0 b1 o1, a0 = some ⟨b0, o0, none⟩ ∧ a1 = some ⟨b1, o1, none⟩ ∧ Two w b0 o0 b1 o1 n ks vs := by
  obtain ⟨b0, o0, e0, lt0, c0, w0⟩ := h0.open (by omega)
  obtain ⟨b1, o1, e1, lt1, c1, w1⟩ := h1.open (by omega)
  exact ⟨b0, o0, b1, o1, e0, e1, lt0, lt1, fun j hj => c0 j (by omega), fun j hj => c1 j (by omega), fun j hj => w0 j (by omega), fun j hj => w1 j (by omega)⟩

set_option maxHeartbeats 400000 in
theorem one_walk (a0 : Option Addr) (len0 cap0 : Nat) (z0 : List Int) (a1 : Option Addr) (len1 cap1 : Nat) (z1 : List Int) (w : World) (w0 : Row .i64 w a0 len0 cap0 z0) (w1 : Row .i8 w a1 len1 cap1 z1) :
    Calls Try.prog 3 #[.slice a0 len0 cap0, .slice a1 len1 cap1] w fun e w' => e = .returned (.bool true) ∧ Below w.heap.size w w' := by
  have m0 := w0.le
  have m1 := w1.le
  by_cases hb : len0 + len1 ≤ 1048576
  · by_cases h0 : 65536 < len0
    · clear w0 w1 m0 m1
      go_enter Try.func3, Try.ntmps3
      go_wp2_with (go_at_call 5; refine (bytes5_yes _ _ _ _ _ _ hb _).mono ?_; rintro e w' ⟨rfl, hw⟩; subst w')
      go_ret
      exact ⟨rfl, Below.refl _ _⟩
    by_cases h1 : 65536 < len1
    · clear w0 w1 m0 m1
      go_enter Try.func3, Try.ntmps3
      go_wp2_with (go_at_call 5; refine (bytes5_yes _ _ _ _ _ _ hb _).mono ?_; rintro e w' ⟨rfl, hw⟩; subst w')
      go_ret
      exact ⟨rfl, Below.refl _ _⟩
    by_cases hz : len0 = 0 ∨ len1 = 0
    · exact one_empty a0 a1 len0 cap0 len1 cap1 (by omega) (by omega) hz w
    · obtain ⟨n, hn⟩ : ∃ n, (len0 < len1 ∧ n = len0) ∨ (¬ len0 < len1 ∧ n = len1) := by
        by_cases h : len0 < len1
        · exact ⟨_, .inl ⟨h, rfl⟩⟩
        · exact ⟨_, .inr ⟨h, rfl⟩⟩
      obtain ⟨b0, o0, b1, o1, rfl, rfl, T⟩ := two_of w0 w1 (n := n) (by omega) (by omega) (by omega)
      exact one_main b0 o0 len0 cap0 b1 o1 len1 cap1 n z0 z1 hn (by omega) (by omega) (by omega) w T
  · clear w0 w1
    go_enter Try.func3, Try.ntmps3
    go_wp2_with (go_at_call 5; refine (bytes5_no _ _ _ _ _ _ m0 m1 hb _).mono ?_; rintro e w' ⟨rfl, hw⟩; subst w')
    go_ret
    exact ⟨rfl, Below.refl _ _⟩
end Go.Proofs.Qxb6630069a
