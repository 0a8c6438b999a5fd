/-
  THE PROOF OF 'Rows.LawS5575BWholeToldSaid': the told card of radio.LawS5575BWhole. No way of the law comes to fmt. The walk: YbulkdkkyFmtLaw.
-/
import Derived.Test.YbulkdkkyFmtCards
import Derived.Test.YbulkdkkyFmtLaw
import Derived.ProofKit
import Derived.OpenShut
import Derived.Below
import Derived.Stop.JoinedTold
import Derived.SevenToldRow
namespace Go.Proofs.YbulkdkkyFmt.lawS5575BWhole
open Go.ChangeShapes Go.WideShapes Go.ChangeAt Go.RowKit
open Go.Extern.Stop Go.Stop Go.Extern
set_option linter.unusedVariables false

theorem own : ownKnob Ybaf.prog.godebug = none := by kernel_rfl
theorem laidOut : laidOutB Ybaf.pinned.checked.prog = true := by kernel_rfl
theorem stops : Ybaf.pinned.checked.prog.stops = ["fmt.Sprintf"] := by kernel_rfl
theorem stopKnobs : Ybaf.pinned.checked.prog.stopKnobs = [] := by kernel_rfl
theorem quiet (os : Os) : Stop.quiet Ybaf.pinned.checked.prog os := by
  intro k hk
  rw [stopKnobs] at hk
  cases hk

theorem walk (a0 a1 a2 a3 a4 : Int) (w0 : (Lit.int .u16 a0).wf = true) (w1 : (Lit.int .u16 a1).wf = true) (w2 : (Lit.int .u8 a2).wf = true) (w3 : (Lit.int .u32 a3).wf = true) (w : World) :
    Calls Ybaf.prog 4 #[.int .u16 a0, .int .u16 a1, .int .u8 a2, .int .u32 a3, .int .i64 a4] w fun e w' => e = .returned (.bool true) ∧ Below w.heap.size w w' := by
  have b0 := bounds_u16 w0
  have b1 := bounds_u16 w1
  have b2 := bounds_u8 w2
  have b3 := bounds_u32 w3
  have p1 : 0 ≤ a3 % (a0 + 1) := Int.emod_nonneg _ (by omega)
  have p2 : a3 % (a0 + 1) < a0 + 1 := Int.emod_lt_of_pos _ (by omega)
  obtain ⟨S, H, U, T, D, P, P0, M, R, Q, E1, E2, n, i, hN⟩ := B.Nums.exists (a0 + 1) (a1 + 1) a2 (a3 % (a0 + 1)) (by omega) (by omega) (by omega) (by omega) (by omega) (by omega) p1 p2
  exact B.law_walk a0 a1 a2 a3 a4 (a0 + 1) (a1 + 1) (a3 % (a0 + 1)) S H U T D P P0 M R Q E1 E2 n i w b0.1 b0.2 b1.1 b1.2 b2.1 b2.2 b3.1 b3.2 rfl rfl rfl hN

set_option maxRecDepth 100000 in
theorem lifted (os : Os) (started : os.Started) (H : Type) (enc : TypeId × Value → H) :
    ReturnsInTold none {} Ybaf.checked os 4 .any Input.okWide ((OpenSpec.ofChange Rows.lawS5575BWholeSpec).preRow enc Ybaf.prog Ybaf.f4 [] false []) (fun F => ((OpenSpec.ofChange Rows.lawS5575BWholeSpec).at F).post enc Ybaf.prog Ybaf.f4 false true false false) (aloneAtReturn Ybaf.prog) nothingAlways := by
  refine returnsInTold_of_row (C := Ybaf.checked) (s := OpenSpec.ofChange Rows.lawS5575BWholeSpec) (by kernel_rfl) own started (by kernel_rfl) Ybaf.func4
    (OpenSpec.witness_stopped (enc := enc) (C := Ybaf.checked) false ⟨#[], #[.int .u16 0, .int .u16 0, .int .u8 0, .int .u32 0, .int .i64 0], []⟩ 8 (by kernel_rfl) (by kernel_rfl) (by kernel_rfl) (by kernel_rfl)) ?_
  intro F W base args ds gs before _ hF hval0 hW _ _ _ _ _
  have hval : ∀ (j : Nat) t v, Ybaf.f4.params[j]? = some t → args[j]? = some v → Value.okWide Ybaf.prog W .any base t v := hval0
  have hW' := hW
  obtain ⟨p, q, hA0, hV, rfl, hfz, hnd⟩ := hW
  have hA : DataW.TrodAll enc Ybaf.prog W 0 (fun _ => true) true Ybaf.f4.params.toList args.toList ds p := hA0
  rw [Ybaf.params4] at hA hval
  obtain ⟨v0, vs0, d0, ds0, p0, q0, hargs, rfl, rfl, h0, r0⟩ := trodAll_cons hA
  obtain ⟨v1, vs1, d1, ds1, p1, q1, rfl, rfl, rfl, h1, r1⟩ := trodAll_cons r0
  obtain ⟨v2, vs2, d2, ds2, p2, q2, rfl, rfl, rfl, h2, r2⟩ := trodAll_cons r1
  obtain ⟨v3, vs3, d3, ds3, p3, q3, rfl, rfl, rfl, h3, r3⟩ := trodAll_cons r2
  obtain ⟨v4, vs4, d4, ds4, p4, q4, rfl, rfl, rfl, h4, r4⟩ := trodAll_cons r3
  obtain ⟨rfl, rfl, rfl⟩ := trodAll_nil r4
  obtain rfl : args = #[v0, v1, v2, v3, v4] := by cases args; simp_all
  obtain ⟨rfl, rfl⟩ := trodVars_none hV
  obtain ⟨a0, rfl, rfl, rfl, w0⟩ := open_int Ybaf.underlying38 (hval 0 38 v0 rfl rfl) h0
  obtain ⟨a1, rfl, rfl, rfl, w1⟩ := open_int Ybaf.underlying38 (hval 1 38 v1 rfl rfl) h1
  obtain ⟨a2, rfl, rfl, rfl, w2⟩ := open_int Ybaf.underlying5 (hval 2 5 v2 rfl rfl) h2
  obtain ⟨a3, rfl, rfl, rfl, w3⟩ := open_int Ybaf.underlying39 (hval 3 39 v3 rfl rfl) h3
  obtain ⟨a4, rfl, rfl, rfl, w4⟩ := open_int Ybaf.underlying3 (hval 4 3 v4 rfl rfl) h4
  clear hA0 hval0
  refine (walk a0 a1 a2 a3 a4 w0 w1 w2 w3 W).mono fun e W' ⟨he, bel⟩ => ?_
  subst he
  exact ⟨_, rfl, _, _, _, [], [], [], hW', trodAll_mk1 (shut_bool Ybaf.underlying4 _), (trodAll_cons_mk (shut_int Ybaf.underlying38 w0) (trodAll_cons_mk (shut_int Ybaf.underlying38 w1) (trodAll_cons_mk (shut_int Ybaf.underlying5 w2) (trodAll_cons_mk (shut_int Ybaf.underlying39 w3) (trodAll_cons_mk (shut_int Ybaf.underlying3 w4) trodAll_mk0))))), rfl, bel.frame _, fun h => by cases h⟩

theorem over : Claim7.holds Ybaf.pinned (.plain (OpenSpec.ofChange Rows.lawS5575BWholeSpec)) (Claim7.toldRow Rows.lawS5575BWholeRow (true, "3e9e6beb49e051f3a3776a4960f1ce43a718b4e90a5a4f7505fec9ee9d3d81ed") false false) :=
  Claim7.holds_of_told_any 4 Ybaf.f4 "fmt.Sprintf" [] [] _ _ _ (by kernel_rfl) rfl rfl rfl laidOut (by kernel_rfl) rfl ⟨rfl, rfl, rfl, rfl, rfl, rfl, rfl⟩ rfl rfl (by kernel_rfl) (by kernel_rfl) Ybaf.func4 (by kernel_rfl)
    (of_decide_eq_true (by kernel_rfl)) (of_decide_eq_true (by kernel_rfl)) stops.symm rfl stopKnobs.symm (by kernel_rfl)
    (by kernel_rfl) (by kernel_rfl) (by kernel_rfl) (by kernel_rfl) (by kernel_rfl) (by kernel_rfl) (by kernel_rfl) (by kernel_rfl) (by kernel_rfl) rfl (by kernel_rfl) rfl rfl
    rfl rfl
    rfl (by kernel_rfl) (by kernel_rfl) (by kernel_rfl) (by decide) (by kernel_rfl)
    (OpenClaim.moreEntering_of (by kernel_rfl) (by kernel_rfl) (by kernel_rfl) (by kernel_rfl) (by kernel_rfl) (by kernel_rfl) (by kernel_rfl) (by kernel_rfl) (by kernel_rfl) (by kernel_rfl))
    ⟨_, WideRow.started_initial, quiet _⟩
    (fun os started _ H enc _ => lifted os started H enc)

/-- THE STATEMENT -/
theorem proved : Rows.LawS5575BWholeToldSaid := over
#print axioms proved
end Go.Proofs.YbulkdkkyFmt.lawS5575BWhole
