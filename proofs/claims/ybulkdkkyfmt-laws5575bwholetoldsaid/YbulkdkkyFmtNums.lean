/-
  The numbers of the law LawS5575BWhole: all that the model and the program reckon, under names.
-/
import Derived.Test.YbulkdkkyFmtLay
namespace Go.Proofs.YbulkdkkyFmt.B
set_option linter.unusedVariables false

structure Nums (X Y K pl S H U T D P P0 M R Q E1 E2 : Int) (n i : Nat) : Prop where
  lay : Lay X Y K S n H U T
  p1 : 0 ≤ pl
  p2 : pl < X
  hD : pl / S = D
  d1 : 0 ≤ D
  d2 : D ≤ pl
  hI : (D ≤ (n : Int) - 1 ∧ (i : Int) = D) ∨ ((n : Int) - 1 < D ∧ (i : Int) = (n : Int) - 1)
  hP : (i : Int) * S = P
  q1 : 0 ≤ P
  q2 : P ≤ pl
  hP0 : ((n : Int) - 1) * S = P0
  q3 : 0 ≤ P0
  q4 : P0 + 1 ≤ X
  hM : ((i : Int) = (n : Int) - 1 ∧ M = X - P0) ∨ ((i : Int) < (n : Int) - 1 ∧ M = S)
  m1 : 1 ≤ M
  m2 : M ≤ 65536
  hR : (i : Int) % U = R
  r1 : 0 ≤ R
  r2 : R < 65536
  hQ : (i : Int) / U = Q
  f1 : 0 ≤ Q
  f2 : Q < 65536
  e1 : (M - 1) * T = E1
  e10 : 0 ≤ E1
  e11 : E1 ≤ 4294967296
  e2 : (pl - P) * T = E2
  e20 : 0 ≤ E2
  e21 : E2 ≤ 4294967296

theorem mul_le_big {a b : Int} (ha : 0 ≤ a) (ha2 : a ≤ 65536) (hb : 0 ≤ b) (hb2 : b ≤ 65536) : 0 ≤ a * b ∧ a * b ≤ 4294967296 := by
  refine ⟨Int.mul_nonneg ha hb, ?_⟩
  have h1 : a * b ≤ 65536 * b := Int.mul_le_mul_of_nonneg_right ha2 hb
  omega

theorem Nums.exists (X Y K pl : Int) (x1 : 1 ≤ X) (x2 : X ≤ 65536) (y1 : 1 ≤ Y) (y2 : Y ≤ 65536) (k1 : 0 ≤ K) (k2 : K ≤ 255) (p1 : 0 ≤ pl) (p2 : pl < X) :
    ∃ (S H U T D P P0 M R Q E1 E2 : Int) (n i : Nat), Nums X Y K pl S H U T D P P0 M R Q E1 E2 n i := by
  obtain ⟨S, C, H, U, T, hL⟩ := Lay.exists X Y K x1 x2 y1 y2 k1 k2
  obtain ⟨n, rfl⟩ := Int.eq_ofNat_of_zero_le (show 0 ≤ C by have := hL.c1; omega)
  have c1 := hL.c1; have c2 := hL.c2; have s1 := hL.s1; have s2 := hL.s2; have u1 := hL.u1; have u2 := hL.u2; have t1 := hL.t1; have t2 := hL.t2; have cs := hL.cs.2
  have d1 : 0 ≤ pl / S := Int.ediv_nonneg p1 (by omega)
  have d2 : pl / S ≤ pl := Int.ediv_le_self _ p1
  obtain ⟨D, hD⟩ : ∃ D, pl / S = D := ⟨_, rfl⟩
  rw [hD] at d1 d2
  obtain ⟨i, hI⟩ : ∃ i : Nat, (D ≤ (n : Int) - 1 ∧ (i : Int) = D) ∨ ((n : Int) - 1 < D ∧ (i : Int) = (n : Int) - 1) := by
    by_cases h : D ≤ (n : Int) - 1
    · exact ⟨D.toNat, Or.inl ⟨h, by omega⟩⟩
    · exact ⟨((n : Int) - 1).toNat, Or.inr ⟨by omega, by omega⟩⟩
  have hiD : (i : Int) ≤ D := by omega
  have hin : (i : Int) ≤ (n : Int) - 1 := by omega
  have hP : (i : Int) * S ≤ pl := by
    have h1 : (i : Int) * S ≤ D * S := Int.mul_le_mul_of_nonneg_right hiD (by omega)
    have h2 : D * S ≤ pl := by rw [← hD]; exact Int.ediv_mul_le pl (by omega)
    omega
  have hP0 : 0 ≤ ((n : Int) - 1) * S := Int.mul_nonneg (by omega) (by omega)
  obtain ⟨M, hM⟩ : ∃ M : Int, ((i : Int) = (n : Int) - 1 ∧ M = X - ((n : Int) - 1) * S) ∨ ((i : Int) < (n : Int) - 1 ∧ M = S) := by
    by_cases h : (i : Int) = (n : Int) - 1
    · exact ⟨_, Or.inl ⟨h, rfl⟩⟩
    · exact ⟨_, Or.inr ⟨by omega, rfl⟩⟩
  have m1 : 1 ≤ M := by omega
  have m2 : M ≤ 65536 := by omega
  have r1 : 0 ≤ (i : Int) % U := Int.emod_nonneg _ (by omega)
  have r2 : (i : Int) % U < U := Int.emod_lt_of_pos _ (by omega)
  have f1 : 0 ≤ (i : Int) / U := Int.ediv_nonneg (by omega) (by omega)
  have f2 : (i : Int) / U ≤ i := Int.ediv_le_self _ (by omega)
  have b1 := mul_le_big (a := M - 1) (b := T) (by omega) (by omega) (by omega) (by omega)
  have hq1 : 0 ≤ (i : Int) * S := Int.mul_nonneg (by omega) (by omega)
  have b2 := mul_le_big (a := pl - (i : Int) * S) (b := T) (by omega) (by omega) (by omega) (by omega)
  exact ⟨S, H, U, T, D, _, _, M, _, _, _, _, n, i, hL, p1, p2, hD, d1, d2, hI, rfl, hq1, hP, rfl, hP0, by omega, hM, m1, m2, rfl, r1, by omega, rfl, f1, by omega, rfl, b1.1, b1.2, rfl, b2.1, b2.2⟩
end Go.Proofs.YbulkdkkyFmt.B
