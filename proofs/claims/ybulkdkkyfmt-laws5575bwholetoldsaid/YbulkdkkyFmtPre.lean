/-
  THE WALK of LawS5575BWhole (function 4).
-/
import Derived.Test.YbulkdkkyFmtNew
import Derived.Test.YbulkdkkyFmtNext
import Derived.Test.YbulkdkkyFmtNums
namespace Go.Proofs.YbulkdkkyFmt.B
open Go.RowKit
set_option linter.unusedVariables false

theorem Laid.later {w wc w' : World} {L A G Mp n : Nat} {X S H U T : Int} {row : Nat → Value} (h : Laid w wc L A G Mp n X S H U T row) (hb : Below wc.heap.size wc w') : Laid w w' L A G Mp n X S H U T row :=
  ⟨h.below.trans (hb.mono h.below.size), h.l.of_block (hb.block _ h.l.lt), h.a.of_block (hb.block _ h.a.lt), h.g.of_block (hb.block _ h.g.lt), (hb.block _ (Array.getElem?_eq_some_iff.1 h.m).1).trans h.m, h.gw, h.lg, h.ag, h.mg⟩

theorem rowE_0 {X S U P0 M : Int} {n i : Nat} (hM : ((i : Int) = (n : Int) - 1 ∧ M = X - P0) ∨ ((i : Int) < (n : Int) - 1 ∧ M = S)) (hn : 1 ≤ n) : rowE X S U P0 n (i * 3) = .int .i64 M := by
  unfold rowE
  rcases hM with ⟨h1, rfl⟩ | ⟨h1, rfl⟩
  · rw [if_pos (by omega)]
  · rw [if_neg (by omega), setCell, if_pos (by omega)]
theorem rowE_0' (X S U P0 : Int) {n j : Nat} (hj : j < n) : rowE X S U P0 n (j * 3) = .int .i64 (if (j : Int) = (n : Int) - 1 then X - P0 else S) := by
  refine rowE_0 ?_ (by omega)
  by_cases e : (j : Int) = (n : Int) - 1
  · exact Or.inl ⟨e, by rw [if_pos e]⟩
  · exact Or.inr ⟨by omega, by rw [if_neg e]⟩
theorem rowE_1 (X S U P0 : Int) (n i : Nat) : rowE X S U P0 n (i * 3 + 1) = .int .i64 ((i : Int) % U + 1) := by
  unfold rowE
  rw [if_neg (by omega), setCell, if_neg (by omega), if_pos (by omega), show (i * 3 + 1) / 3 = i by omega]
theorem rowE_2 (X S U P0 : Int) (n i : Nat) : rowE X S U P0 n (i * 3 + 2) = .int .i64 ((i : Int) / U + 1) := by
  unfold rowE
  rw [if_neg (by omega), setCell, if_neg (by omega), if_neg (by omega), show (i * 3 + 2) / 3 = i by omega]
theorem rowE_int (X S U P0 : Int) (n j : Nat) : ∃ z, rowE X S U P0 n j = .int .i64 z := by
  unfold rowE setCell
  split
  · exact ⟨_, rfl⟩
  · split
    · exact ⟨_, rfl⟩
    · split
      · exact ⟨_, rfl⟩
      · exact ⟨_, rfl⟩

/-- The cells of the sets as a list. -/
def newsE (X S U P0 : Int) (n : Nat) : List Value := (List.range (n * 3)).map (rowE X S U P0 n)
theorem newsE_length (X S U P0 : Int) (n : Nat) : (newsE X S U P0 n).length = n * 3 := by simp [newsE]
theorem newsE_get {X S U P0 : Int} {n j : Nat} {u : Value} (h : (newsE X S U P0 n)[j]? = some u) : j < n * 3 ∧ u = rowE X S U P0 n j := by
  have hj : j < n * 3 := by
    have := (List.getElem?_eq_some_iff.1 h).1
    rwa [newsE_length] at this
  refine ⟨hj, ?_⟩
  simp [newsE, hj] at h
  exact h.symm
theorem newsE_at (X S U P0 : Int) {n j : Nat} (hj : j < n * 3) : (newsE X S U P0 n)[j]? = some (rowE X S U P0 n j) := by simp [newsE, hj]
theorem newsE_one (X S U P0 : Int) (n : Nat) : ∀ u, u ∈ newsE X S U P0 n → u.oneCell' = true := by
  intro u hu
  obtain ⟨j, _, rfl⟩ := List.mem_map.1 hu
  obtain ⟨z, hz⟩ := rowE_int X S U P0 n j
  rw [hz]; rfl

theorem neq_lay (a b c d e f : Int) (W : World) : (binOp .neq 43 (.agg #[.int .i64 a, .int .i64 b, .int .i64 c, .int .i64 d, .int .i64 e, .int .i64 f]) (.agg #[.int .i64 a, .int .i64 b, .int .i64 c, .int .i64 d, .int .i64 e, .int .i64 f])).run Ybaf.prog W = .ok (.bool false) W := by
  have u3 := Ybaf.underlying3
  have hS : Ybaf.prog.underlying 43 = some (.struct (Ybaf.prog.fieldsOf 43)) := by kernel_rfl
  have hp : Ybaf.prog.stoodInHeld 43 = false := by kernel_rfl
  simp only [binOp]
  have h : (Op.equalIn 10000 43 (.agg #[.int .i64 a, .int .i64 b, .int .i64 c, .int .i64 d, .int .i64 e, .int .i64 f]) (.agg #[.int .i64 a, .int .i64 b, .int .i64 c, .int .i64 d, .int .i64 e, .int .i64 f])).run Ybaf.prog W = .ok true W := by
    rw [show (10000 : Nat) = 9999 + 1 from rfl, run_equalIn_struct W 9999 43 _ _ hS hp]
    simp only [Program.fieldsOf, Ybaf.underlying43]
    go_simp
  simp [Op.equal, Op.maxDepth, h]

theorem neq_act (o c a0 a1 a2 a3 a4 : Int) (W : World) : (binOp .neq 55 (.agg #[.int .u8 o, .int .i64 c, .int .i64 a0, .int .i64 a1, .int .i64 a2, .int .i64 a3, .int .i64 a4]) (.agg #[.int .u8 o, .int .i64 c, .int .i64 a0, .int .i64 a1, .int .i64 a2, .int .i64 a3, .int .i64 a4])).run Ybaf.prog W = .ok (.bool false) W := by
  have u3 := Ybaf.underlying3
  have hS : Ybaf.prog.underlying 55 = some (.struct (Ybaf.prog.fieldsOf 55)) := by kernel_rfl
  have hp : Ybaf.prog.stoodInHeld 55 = false := by kernel_rfl
  have hS2 : Ybaf.prog.underlying 53 = some (.struct (Ybaf.prog.fieldsOf 53)) := by kernel_rfl
  have hp2 : Ybaf.prog.stoodInHeld 53 = false := by kernel_rfl
  have h2 : ∀ W, (Op.equalIn 9999 53 (.agg #[.int .i64 a0, .int .i64 a1, .int .i64 a2, .int .i64 a3, .int .i64 a4]) (.agg #[.int .i64 a0, .int .i64 a1, .int .i64 a2, .int .i64 a3, .int .i64 a4])).run Ybaf.prog W = .ok true W := fun W => by
    rw [show (9999 : Nat) = 9998 + 1 from rfl, run_equalIn_struct W 9998 53 _ _ hS2 hp2]
    simp only [Program.fieldsOf, Ybaf.underlying53]
    go_simp
  simp only [binOp]
  have h : (Op.equalIn 10000 55 (.agg #[.int .u8 o, .int .i64 c, .int .i64 a0, .int .i64 a1, .int .i64 a2, .int .i64 a3, .int .i64 a4]) (.agg #[.int .u8 o, .int .i64 c, .int .i64 a0, .int .i64 a1, .int .i64 a2, .int .i64 a3, .int .i64 a4])).run Ybaf.prog W = .ok true W := by
    rw [show (10000 : Nat) = 9999 + 1 from rfl, run_equalIn_struct W 9999 55 _ _ hS hp]
    simp only [Program.fieldsOf, Ybaf.underlying55]
    go_simp
  simp [Op.equal, Op.maxDepth, h]
theorem len_map (Mp : Nat) (W : World) (ty : TypeId) (h : W.heap[Mp]? = some (.map #[] 0)) : (Builtin.len_ #[45] ty #[.map (some Mp)]).run Ybaf.prog W = .ok (.int .i64 0) W := by
  simp [Builtin.len_, run_underlying Ybaf.underlying45, run_getObj_map W Mp #[] 0 h]
  rfl
end Go.Proofs.YbulkdkkyFmt.B
