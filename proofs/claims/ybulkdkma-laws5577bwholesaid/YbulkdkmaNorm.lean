/-
  (math/big.nat).make (function 19) from nothing, (math/big.nat).norm (21).
-/
import Derived.Test.YbulkdkmaBe
namespace Go.Proofs.Ybulkdkma.N
open Go.RowKit Go.Deep
set_option linter.unusedVariables false

theorem make19 (nw : Nat) (h : nw ≤ 200000) (w : World) : Calls Yba.prog 19 #[.slice none 0 0, .int .i64 nw] w fun e w' => (nw = 0 ∧ e = .returned (.slice none 0 0) ∧ w' = w) ∨
    (0 < nw ∧ ∃ cap, nw ≤ cap ∧ cap ≤ 300000 ∧ e = .returned (.slice (some ⟨w.heap.size, 0, none⟩) nw cap) ∧ w' = w.alloc (.cells (madeCells #[.int .u64 0] cap) 39)) := by
  obtain ⟨i0, hi, hz0, hz1, hz2⟩ := info_parts info39
  by_cases h0 : nw = 0
  · subst h0
    go_enter Yba.func19, Yba.ntmps19
    go_wp2_with fail
    go_ret
    simp
  · by_cases h1 : nw = 1
    · subst h1
      have hmk : ∀ W : World, (Instr.makeSlice 25 (.int .i64 1) (.int .i64 1)).run Yba.prog W = .ok (.slice (some ⟨W.heap.size, 0, none⟩) 1 1) (W.alloc (.cells (madeCells #[.int .u64 0] 1) 39)) := fun W =>
        run_make_row' (P := Yba.prog) 25 39 (.int .u64 0) 8 Yba.underlying25 info39 rfl .i64 .i64 1 (by omega) (by omega) W
      go_enter Yba.func19, Yba.ntmps19
      go_wp2_with fail
      go_ret
      exact Or.inr ⟨by omega, 1, by omega, by omega, rfl, rfl⟩
    · have h2 : (1 : Int) < (nw : Int) := by omega
      have hmk : ∀ W : World, (Instr.makeSlice 25 (.int .i64 (nw : Int)) (.int .i64 ((nw : Int) + 4))).run Yba.prog W = .ok (.slice (some ⟨W.heap.size, 0, none⟩) nw (nw + 4)) (W.alloc (.cells (madeCells #[.int .u64 0] (nw + 4)) 39)) := fun W => by
        have hh := run_make (P := Yba.prog) W 25 39 i0 (.int .u64 0) Yba.underlying25 hi hz0 .i64 .i64 (nw : Int) ((nw : Int) + 4) (by omega) (by omega) (by rw [hz2]; omega) (by omega)
        rw [hz1, show ((nw : Int) + 4).toNat * 1 = nw + 4 by omega, show ((nw : Int) + 4).toNat = nw + 4 by omega, Int.toNat_natCast] at hh
        exact hh
      have h3 : ((nw : Int) == 1) = false := by simp; omega
      go_enter Yba.func19, Yba.ntmps19
      go_wp2_with fail
      go_ret
      exact Or.inr ⟨by omega, nw + 4, by omega, by omega, rfl, rfl⟩

theorem norm_nil (w : World) : Calls Yba.prog 21 #[.slice none 0 0] w fun e w' => e = .returned (.slice none 0 0) ∧ w' = w := by
  go_enter Yba.func21, Yba.ntmps21
  go_wp2_with fail
  go_loopg [3] 0 (fun g i wr => g = 0 ∧ i = .int .i64 0 ∧ wr = w)
  case atStart => exact ⟨rfl, rfl, rfl⟩
  case round =>
    obtain ⟨rfl, rfl, rfl⟩ := hrel
    go_wp2_with fail
    go_ret
    exact ⟨rfl, rfl⟩

set_option maxHeartbeats 1000000 in
theorem norm21 (w : World) (g n cap : Nat) (f : Nat → Value) (W : Nat → Nat) (hr : w.rowIs g 39 cap f) (hf : ∀ k, k < n → f k = .int .u64 (W k : Nat)) (hn : n ≤ cap) (hc : cap ≤ 300000) :
    Calls Yba.prog 21 #[.slice (some ⟨g, 0, none⟩) n cap] w fun e w' => ∃ K, K ≤ n ∧ e = .returned (.slice (some ⟨g, 0, none⟩) K cap) ∧ (∀ k, K ≤ k → k < n → W k = 0) ∧ (K = 0 ∨ W (K - 1) ≠ 0) ∧ w' = w := by
  have HR : Hid (w.rowIs g 39 cap f ∧ ∀ k, k < n → f k = .int .u64 (W k : Nat)) := ⟨hr, hf⟩
  clear hr hf
  go_enter Yba.func21, Yba.ntmps21
  go_wp2_with fail
  go_loopg [3] n (fun q i wr => ∃ K : Nat, K ≤ n ∧ q = K ∧ i = .int .i64 K ∧ wr = w ∧ Hid (∀ k, K ≤ k → k < n → W k = 0))
  case atStart => exact ⟨n, Nat.le_refl _, rfl, rfl, rfl, fun k h1 h2 => by omega⟩
  case round =>
    obtain ⟨K, hK, hq, rfl, rfl, hZ⟩ := hrel
    obtain rfl : K = _ := hq.symm
    by_cases h0 : K = 0
    · subst h0
      go_wp2_with fail
      go_ret
      exact ⟨0, by omega, rfl, hZ.out, Or.inl rfl, rfl⟩
    · obtain ⟨K, rfl⟩ : ∃ K', K = K' + 1 := ⟨K - 1, by omega⟩
      have hKc : (K : Int) < (n : Int) := by omega
      have hK0 : (0 : Int) < ((K + 1 : Nat) : Int) := by omega
      have c1 : wr.cell? ⟨g, K, none⟩ = some (.int .u64 (W K : Nat)) := by rw [HR.out.1.cell (by omega), HR.out.2 K (by omega)]
      by_cases hz : W K = 0
      · rw [hz] at c1
        go_wp2_with fail
        go_roundg K
        case measure => go_light; omega
        case rel =>
          go_light
          exact ⟨K, by omega, rfl, by simp, rfl, fun k h1 h2 => by
            by_cases e : k = K
            · rw [e]; exact hz
            · exact hZ.out k (by omega) h2⟩
      · have hzz : (((W K : Nat) : Int) == 0) = false := by simp; omega
        go_wp2_with fail
        go_ret
        exact ⟨K + 1, hK, rfl, hZ.out, Or.inr hz, rfl⟩
end Go.Proofs.Ybulkdkma.N
