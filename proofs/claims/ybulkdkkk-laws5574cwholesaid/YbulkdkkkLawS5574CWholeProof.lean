/-
  THE PROOF OF 'Rows.LawS5574CWholeSaid' ('php.LawS5574CWhole'): the row's frame after the guide's shell; the walks: YbulkdkkkCLaw.
-/
import Derived.Test.YbulkdkkkCLaw
import Derived.ProofKit
import Derived.OpenShut
import Derived.ShutString
import Derived.ChangeOld
import Derived.Below
import Derived.SizedLaws
import Derived.Deep.Matrix
namespace Go.Proofs.Ybulkdkkk.lawS5574CWhole
open Go.ChangeShapes Go.WideShapes Go.ChangeAt Go.RowKit Go.Deep
set_option linter.unusedVariables false

theorem own : ownKnob Yba.prog.godebug = none := by kernel_rfl
theorem laidOut : laidOutB Yba.prog = true := by kernel_rfl
theorem cells25 : Yba.prog.cellsOf 25 = 1 := by kernel_rfl
theorem cells3 : Yba.prog.cellsOf 3 = 1 := by kernel_rfl
theorem bytes25 : Yba.prog.bytesOf 25 = 24 := by kernel_rfl
theorem bytes3 : Yba.prog.bytesOf 3 = 8 := by kernel_rfl
theorem reach_eq : reachBytes = 140737488351232 := rfl

theorem weightsAll_mem {H : Type} {P : Program} {e : TypeId} : ∀ {l : List (DataW H)} {d : DataW H}, d ∈ l → ∀ n ∈ d.weights P e, n ∈ DataW.weightsAll P e l
  | d' :: r, d, hd, n, hn => by
    simp only [DataW.weightsAll, List.mem_append]
    rcases List.mem_cons.1 hd with rfl | h
    · exact Or.inl hn
    · exact Or.inr (weightsAll_mem h n hn)

theorem sized_inner {H : Type} {P : Program} {ts : List TypeId} {ds : List (DataW H)} (h : (DataW.weightsEach P ts ds).all (· ≤ reachBytes) = true) {j : Nat} {t e q : TypeId} {elems spare e' sp' : List (DataW H)}
    (ht : ts[j]? = some t) (hd : ds[j]? = some (.slice elems spare)) (hu : P.underlying t = some (.slice e)) (hu2 : P.underlying e = some (.slice q)) (hx : DataW.slice e' sp' ∈ elems) : (e'.length + sp'.length) * P.bytesOf q ≤ reachBytes := by
  refine of_decide_eq_true (List.all_eq_true.1 h _ (DataW.weights_mem_each ht hd _ ?_))
  simp only [DataW.weights, hu, List.mem_cons, List.mem_append]
  exact Or.inr (Or.inl (weightsAll_mem hx _ (by simp [DataW.weights, hu2])))

set_option maxHeartbeats 1600000 in
set_option maxRecDepth 100000 in
theorem lifted (os : Os) (started : os.Started) (H : Type) (enc : TypeId × Value → H) :
    ReturnsInHanded {} Yba.checked os 4 .any (Rows.lawS5574CWholeSpec.pre6 enc Yba.prog Yba.f4 Rows.lawS5574CWholeRow.domain false) (Rows.lawS5574CWholeSpec.post enc Yba.prog Yba.f4 false true false false) := by
  refine returnsInHanded_of_change_sized (C := Yba.checked) own started (by kernel_rfl) Yba.func4
    (ChangeSpec.witness6 (enc := enc) (C := Yba.checked) false ⟨#[], #[.slice none 0 0, .slice none 0 0], []⟩ 8 (by kernel_rfl) (by kernel_rfl) (by kernel_rfl) (by kernel_rfl)) ?_
  intro W base args ds gs before hval0 hW hcnd hsz0 _
  have hsz : (DataW.weightsEach Yba.prog (Yba.f4.params.toList ++ Rows.lawS5574CWholeSpec.plain.varTypes Yba.prog) (ds ++ gs)).all (· ≤ reachBytes) = true := hsz0
  clear hsz0
  have hval : ∀ (j : Nat) t v, Yba.f4.params[j]? = some t → args[j]? = some v → Value.okWide Yba.prog W .any base t v := hval0
  have hW' := hW
  obtain ⟨p, q, hA0, hV, rfl, hfz, hnd⟩ := hW
  have hA : DataW.TrodAll enc Yba.prog W 0 (fun _ => true) true Yba.f4.params.toList args.toList ds p := hA0
  rw [Yba.params4] at hA hval hsz
  obtain ⟨v0, vs0, d0, ds0, p0, q0, hargs, rfl, rfl, h0, r0⟩ := trodAll_cons hA
  obtain ⟨v1, vs1, d1, ds1, p1, q1, rfl, rfl, rfl, h1, r1⟩ := trodAll_cons r0
  obtain ⟨rfl, rfl, rfl⟩ := trodAll_nil r1
  obtain rfl : args = #[v0, v1] := by cases args; simp_all
  obtain ⟨rfl, rfl⟩ := trodVars_none hV
  obtain ⟨a0, len0, cap0, rfl⟩ := okWide_slice Yba.underlying24 (hval 0 24 v0 rfl rfl)
  have k0 := h0
  have lt0 : ∀ x ∈ p0, x.block < W.heap.size := by obtain ⟨m, hm⟩ := k0; exact DataW.trod_lt m _ _ _ hm
  obtain ⟨a1, len1, cap1, rfl⟩ := okWide_slice Yba.underlying25 (hval 1 25 v1 rfl rfl)
  have k1 := h1
  have lt1 : ∀ x ∈ p1, x.block < W.heap.size := by obtain ⟨m, hm⟩ := k1; exact DataW.trod_lt m _ _ _ hm
  -- the spare
  obtain ⟨Z1, n1, nil1, cell1⟩ : ∃ Z : Nat → Int, 8 * len1 ≤ 281474976710656 ∧ (a1 = none → len1 = 0 ∧ cap1 = 0) ∧ ∀ a, a1 = some a → ∀ j, j < len1 → W.cell? (a.add j) = some (.int .i64 (Z j)) := by
    obtain ⟨fuel, hf⟩ := h1
    rcases open_ints Yba.underlying25 Yba.underlying3 cells3 hf with ⟨hcs, hx⟩ | ⟨x, l, c, zs, hcs, _, hl, hm, hz, hx, hcell, hwz⟩
    · simp [Value.cells] at hcs
      obtain ⟨rfl, rfl, rfl⟩ := hcs
      exact ⟨fun _ => 0, by omega, fun _ => ⟨rfl, rfl⟩, fun a h => by cases h⟩
    · simp [Value.cells] at hcs
      obtain ⟨rfl, rfl, rfl⟩ := hcs
      simp only [Prod.mk.injEq] at hx
      obtain ⟨rfl, rfl⟩ := hx
      simp only [if_true] at hz
      have hs := sized_slice hsz (j := 1) (t := 25) (e := 3) rfl rfl Yba.underlying25
      simp only [lits, List.length_map, List.length_take, List.length_drop, bytes3, reach_eq] at hs
      refine ⟨fun j => zs.getD j 0, by omega, (fun h => by cases h), fun a ha j hj => ?_⟩
      cases ha
      exact hcell j (by omega)
  -- what every walk ends in
  have fin : ∀ (e : Ending) (W' : World), (e = .returned (.bool true) ∧ Below W.heap.size W W') → ∃ v, e = .returned v ∧ Rows.lawS5574CWholeSpec.post enc Yba.prog Yba.f4 false true false false W #[.slice a0 len0 cap0, .slice a1 len1 cap1] v W' := by
    rintro e W' ⟨rfl, bel⟩
    exact ⟨_, rfl, _, _, _, [], _, [], hW', trodAll_mk1 (shut_bool Yba.underlying4 _), (trodAll_cons_mk (Below.trod laidOut (by kernel_rfl) (of_decide_eq_true (by kernel_rfl)) k0 bel lt0) (trodAll_cons_mk (Below.trod laidOut (by kernel_rfl) (of_decide_eq_true (by kernel_rfl)) k1 bel lt1) trodAll_mk0)), rfl, bel.frame _, fun h => by cases h⟩
  have empty : ∀ (ba : Option Addr) (c : Nat), (ba = none → c = 0) → Calls Yba.prog 4 #[.slice ba 0 c, .slice a1 len1 cap1] W fun e w' => e = .returned (.bool true) ∧ Below W.heap.size W w' := by
    intro ba c hba
    cases a1 with
    | none =>
      obtain ⟨rfl, rfl⟩ := nil1 rfl
      exact C.law_empty_nil ba c hba W
    | some a => exact C.law_empty_some ba c hba a len1 cap1 Z1 W n1 (cell1 a rfl)
  obtain ⟨fuel0, hf⟩ := h0
  rcases open_int_rows Yba.underlying24 Yba.underlying25 Yba.underlying3 cells25 cells3 hf with ⟨hcs0, hx⟩ | ⟨a, len', cap', A, L, C, Z, hcs0, _, hl, hm, hx, hrows⟩
  · simp [Value.cells] at hcs0
    obtain ⟨rfl, rfl, rfl⟩ := hcs0
    exact (empty none 0 (fun _ => rfl)).mono fun e W' h => fin e W' h
  simp [Value.cells] at hcs0
  obtain ⟨rfl, rfl, rfl⟩ := hcs0
  simp only [Prod.mk.injEq] at hx
  obtain ⟨rfl, rfl⟩ := hx
  by_cases hl0 : len0 = 0
  · subst hl0
    exact (empty (some a) cap0 (fun h => by cases h)).mono fun e W' h => fin e W' h
  have hs := sized_slice hsz (j := 0) (t := 24) (e := 25) rfl rfl Yba.underlying24
  simp only [List.length_map, List.length_range, bytes25, reach_eq] at hs
  refine (Ybulkdkkk.C.law_blocks a len0 cap0 A L C (fun r j => (Z r).getD j 0) a1 len1 cap1 Z1 W (by omega) (by omega) (fun r hr => ?_) (fun r hr => (hrows r (by omega)).1) (fun r hr hA => ?_) (fun r hr a' hA j hj => ?_) n1 nil1 cell1).mono fun e W' h => fin e W' h
  · cases hA : A r with
    | none =>
      obtain ⟨_, h1, _, _, _, h3, _⟩ := hrows r (by omega)
      have := h3 hA
      omega
    | some a' =>
      obtain ⟨_, h1, _, h2, _⟩ := hrows r (by omega)
      have hin := sized_inner hsz (j := 0) (t := 24) (e := 25) (q := 3) rfl rfl Yba.underlying24 Yba.underlying25 (e' := lits .i64 ((Z r).take (L r))) (sp' := lits .i64 ((Z r).drop (L r)))
        (List.mem_map.2 ⟨r, List.mem_range.2 hr, by simp [intRow, hA]⟩)
      simp only [lits, List.length_map, List.length_take, List.length_drop, bytes3, reach_eq] at hin
      omega
  · obtain ⟨_, h1, _, _, _, h3, _⟩ := hrows r (by omega)
    have := h3 hA
    omega
  · obtain ⟨_, h1, _, _, _, _, h4⟩ := hrows r (by omega)
    exact (h4 a' hA).2 j (by omega)

theorem over : Rows.lawS5574CWholeRow.holds Yba.pinned (OpenSpec.ofChange Rows.lawS5574CWholeSpec) :=
  OpenClaim.holds_of_wide 4 Yba.f4 rfl rfl rfl rfl rfl rfl rfl ⟨rfl, rfl, rfl, rfl, rfl⟩ rfl rfl rfl rfl rfl (by kernel_rfl) Yba.func4 (by kernel_rfl)
    (of_decide_eq_true (by kernel_rfl)) (by unfold Func.isWrapper; first | (rw [if_pos (by decide +kernel)]; kernel_rfl) | (rw [if_neg (by decide +kernel)]; exact ⟨rfl, rfl⟩))
    (fun os started H enc _ => lifted os started H enc)

/-- THE STATEMENT -/
theorem proved : Rows.LawS5574CWholeSaid := over
#print axioms proved
end Go.Proofs.Ybulkdkkk.lawS5574CWhole
