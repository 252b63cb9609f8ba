/-
  The plain law of the Vandermonde matrix: the package's loops, by the two tables, and the reference's, by repeated products, come to one matrix; for up to a thousand rows and columns. No memory in it.
-/
import Derived.Test.YthigdbokhghbjaaDoorVand
import Derived.Test.YthigdbokhghbjaaDoorMatLaw
namespace Go.Proofs.YthigdbokhghbjaaDoor.Mat
open Go.RowKit Go.Proofs.YthigdbokhghbjaaDoorW.PrintWords Go.Proofs.YthigdbokhghbjaaDoorW.PrintLast Go.Proofs.YthigdbokhghbjaaDoorW.PrintMore
open Go.Proofs.YthigdbokhghbjaaDoor.Base
open Go.Proofs.YthigdbokhghbjaaDoor.Gf (gexp power_tells)

theorem power_at (r c K : Nat) (hc : c ≤ 1000) (hK : c + 10 ≤ K) : spec_Power.f K ((r : Int) % 256) (c : Int) = some ((gexp (r % 256) c : Nat) : Int) := by
  have e : (r : Int) % 256 = ((r % 256 : Nat) : Int) := by omega
  rw [e]
  exact at_rounds (g := fun k => spec_Power.f k ((r % 256 : Nat) : Int) (c : Int)) (fun k => spec_Power.mono _ _ k) hK (power_tells (a := r % 256) (Nat.mod_lt _ (by decide)) c (by omega))

theorem van_inner (R C r K : Nat) (hR : R ≤ 1000) (hC : C ≤ 1000) (hr : r < R) (hK : 2000 ≤ K)
    (next : ∀ xs, Sized xs R C → ∃ s, Sized s R C ∧ spec_Vandermonde.l0 K (C : Int) xs (R : Int) ((r + 1 : Nat) : Int) = some s ∧ vand.l0 K xs (R : Int) ((r + 1 : Nat) : Int) = some s) :
    ∀ d c xs, c + d = C → Sized xs R C → ∃ s, Sized s R C ∧ spec_Vandermonde.l1 (K + d + 1) (C : Int) xs (r : Int) (R : Int) (r : Int) (C : Int) (c : Int) = some s ∧ vand.l1 (K + d + 1) xs (r : Int) (R : Int) (C : Int) (c : Int) = some s := by
  intro d
  induction d with
  | zero =>
    intro c xs hc hx
    obtain ⟨s, h1, h2, h3⟩ := next xs hx
    refine ⟨s, h1, ?_, ?_⟩
    · show spec_Vandermonde.l1 (K + 1) _ _ _ _ _ _ _ = _
      simp only [spec_Vandermonde.l1]
      rw [if_neg (by omega), up64 (by omega)]
      exact h2
    · show vand.l1 (K + 1) _ _ _ _ _ = _
      simp only [vand.l1]
      rw [if_neg (by omega), up64 (by omega)]
      exact h3
  | succ d ih =>
    intro c xs hc hx
    have hrow := hx.row hr
    obtain ⟨s, h1, h2, h3⟩ := ih (c + 1) (xs.set r ((rd_L1 xs (r : Int)).set c ((gexp (r % 256) c : Nat) : Int))) (by omega) (hx.set r (by rw [List.length_set]; exact hrow))
    have e : ((r : Int) % 256).toNat = r % 256 := by omega
    refine ⟨s, h1, ?_, ?_⟩
    · show spec_Vandermonde.l1 ((K + d + 1) + 1) _ _ _ _ _ _ _ = _
      simp only [spec_Vandermonde.l1]
      rw [if_pos (by omega), if_pos (by omega), if_pos (by rw [hx.1]; omega), power_at r c (K + d + 1) (by omega) (by omega)]
      simp only [Option.bind_some]
      rw [if_pos (by omega), if_pos (by rw [hrow]; omega), up64 (by omega), Int.toNat_natCast, Int.toNat_natCast]
      exact h2
    · show vand.l1 ((K + d + 1) + 1) _ _ _ _ _ = _
      simp only [vand.l1]
      rw [if_pos (by omega), if_pos (by omega), if_pos (by rw [hx.1]; omega), if_pos (by omega), if_pos (by rw [hrow]; omega), up64 (by omega), e, Int.toNat_natCast, Int.toNat_natCast]
      exact h3

theorem van_outer (R C : Nat) (hR : R ≤ 1000) (hC : C ≤ 1000) : ∀ e r xs, r + e = R → Sized xs R C → ∃ s, Sized s R C ∧ spec_Vandermonde.l0 (2000 + e * (C + 2) + 1) (C : Int) xs (R : Int) (r : Int) = some s ∧ vand.l0 (2000 + e * (C + 2) + 1) xs (R : Int) (r : Int) = some s := by
  intro e
  induction e with
  | zero =>
    intro r xs hr hx
    refine ⟨xs, hx, ?_, ?_⟩
    · show spec_Vandermonde.l0 (2000 + 0 * (C + 2) + 1) _ _ _ _ = _
      simp only [spec_Vandermonde.l0]
      rw [if_neg (by omega)]
    · show vand.l0 (2000 + 0 * (C + 2) + 1) _ _ _ = _
      simp only [vand.l0]
      rw [if_neg (by omega)]
  | succ e ih =>
    intro r xs hr hx
    have ek : 2000 + (e + 1) * (C + 2) + 1 = ((2000 + e * (C + 2) + 1) + C + 1) + 1 := by rw [Nat.add_mul]; omega
    obtain ⟨s, h1, h2, h3⟩ := van_inner R C r (2000 + e * (C + 2) + 1) hR hC (by omega) (by omega) (fun ys hy => ih (r + 1) ys (by omega) hy) C 0 xs (by omega) hx
    rw [ek]
    refine ⟨s, h1, ?_, ?_⟩
    · simp only [spec_Vandermonde.l0]
      rw [if_pos (by omega)]
      exact h2
    · have hrow := hx.row (i := r) (by omega)
      simp only [vand.l0]
      rw [if_pos (by omega), if_pos (by omega), if_pos (by rw [hx.1]; omega), hrow]
      exact h3

/-- THE PACKAGE's VANDERMONDE MATRIX IS THE REFERENCE's. -/
theorem vandermonde_same (R C : Nat) (hR0 : 0 < R) (hC0 : 0 < C) (hR : R ≤ 1000) (hC : C ≤ 1000) : ∃ K s, Sized s R C ∧ spec_Vandermonde.f K (R : Int) (C : Int) = some s ∧ reedsolomon_newMatrix.f K (R : Int) (C : Int) = some (zm R C, none) ∧
    vand.l0 K (zm R C) ((zm R C).length : Int) 0 = some s := by
  obtain ⟨s, h1, h2, h3⟩ := van_outer R C hR hC R 0 (zm R C) (by omega) (sized_zm R C)
  have hk : R < 2000 + R * (C + 2) + 1 := by omega
  refine ⟨2000 + R * (C + 2) + 1, s, h1, ?_, newM_tells C R hC0 hR0 (by omega) (by omega) _ hk, ?_⟩
  · unfold spec_Vandermonde.f
    rw [zeros_tells C R (by omega) (by omega) _ hk]
    exact h2
  · rw [(sized_zm R C).1]
    exact h3

end Go.Proofs.YthigdbokhghbjaaDoor.Mat
