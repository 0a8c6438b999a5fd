/-
  slices.Clone (function 8) and slices.Equal (function 10) at []set.
-/
import Derived.Test.YbulkdkkyFmtLay
import Derived.Deep.LoopGhost
import Derived.Deep.Light
import Derived.Laws.StructEq
import Derived.Lib.SliceRun
namespace Go.Proofs.YbulkdkkyFmt.B
open Go.RowKit
set_option linter.unusedVariables false

theorem info50 : (Ybaf.prog.info? 50).map (fun i => (i.zero, i.size, i.bytes)) = some (some (.agg #[.int .i64 0, .int .i64 0, .int .i64 0]), 3, 24) := by kernel_rfl

set_option maxHeartbeats 1000000 in
theorem clone_any (b m c : Nat) (news : List Value) (w : World) (hm : 1 ≤ m) (hm2 : m ≤ 65536) (hl : news.length = m * 3)
    (hcells : ∀ j u, news[j]? = some u → w.cell? ⟨b, j, none⟩ = some u) (h1 : ∀ u, u ∈ news → u.oneCell' = true) :
    Calls Ybaf.prog 8 #[.slice (some ⟨b, 0, none⟩) m c] w fun e w' => ∃ g cap, e = .returned (.slice (some ⟨g, 0, none⟩) m cap) ∧ m ≤ cap ∧ w.heap.size ≤ g ∧
      (∀ j u, news[j]? = some u → w'.cell? ⟨g, j, none⟩ = some u) ∧ Below w.heap.size w w' := by
  have he := Lib.run_eql_slice_nil (P := Ybaf.prog) w 44 50 (some ⟨b, 0, none⟩) m c 0 0 Ybaf.underlying44
  obtain ⟨i0, hi, hz0, hz1, hz2⟩ := info_parts info50
  go_enter Ybaf.func8, Ybaf.ntmps8
  go_wp2_with (at_builtin; refine wpList_append_own _ rfl (.tmp 5) (.tmp 6) 44 rfl w.heap.size 50 i0 (.agg #[.int .i64 0, .int .i64 0, .int .i64 0]) 3 24 Ybaf.underlying44 hi hz0 hz1 hz2 rfl (by decide) _ 0 [] rfl ?c0 ⟨b, 0, none⟩ m c news rfl hl ?c1 h1 ?c3 ?c4 ?c5 ?_)
  case c0 => exact World.ownsRow_made w #[] 0 (Nat.le_refl _) (by unfold maxLen; omega) rfl
  case c1 =>
    intro j u hj
    have := cell_later ((Below.refl w.heap.size w).alloc (Nat.le_refl _) (.cells #[] 50)) (hcells j u hj)
    rw [Addr.add_lit, Nat.zero_add]
    exact this
  case c3 => unfold maxLen; omega
  case c4 => omega
  case c5 => simp
  intro v' w' hown hgrow _
  obtain ⟨g, cap, cur, rfl, hB, hg, hc1, hc2⟩ : ∃ g cap cur, v' = .slice (some ⟨g, 0, none⟩) m cap ∧ w.heap.size ≤ g ∧ w'.heap[g]? = some (.cells cur 50 (0, 0)) ∧ m ≤ cap ∧ True := by
    rcases hown.2 with ⟨_, h2⟩ | ⟨g, cap, cur, hv, hB, hg', hn, r⟩
    · omega
    · exact ⟨g, cap, cur, hv, hB, hg', hn, trivial⟩
  have hce : ∀ j u, news[j]? = some u → w'.cell? ⟨g, j, none⟩ = some u := fun j u hj => by
    have := hown.cells (g := g) rfl j u hj
    rw [Addr.add_lit, Nat.zero_add] at this
    exact this
  have hbel : Below w.heap.size w w' := ((Below.refl w.heap.size w).alloc (Nat.le_refl _) (.cells #[] 50)).grown hgrow (by simp) (fun k hk => by simp [Value.ownBlock] at hk; omega)
  clear hown hgrow hcells
  go_wp2
  go_ret
  exact ⟨g, cap, rfl, hc1, hB, hce, hbel⟩

theorem neq_set (a b c : Int) (W : World) : (binOp .neq 50 (.agg #[.int .i64 a, .int .i64 b, .int .i64 c]) (.agg #[.int .i64 a, .int .i64 b, .int .i64 c])).run Ybaf.prog W = .ok (.bool false) W := by
  have u3 := Ybaf.underlying3
  have hS : Ybaf.prog.underlying 50 = some (.struct (Ybaf.prog.fieldsOf 50)) := by kernel_rfl
  have hp : Ybaf.prog.stoodInHeld 50 = false := by kernel_rfl
  simp only [binOp]
  have h : (Op.equalIn 10000 50 (.agg #[.int .i64 a, .int .i64 b, .int .i64 c]) (.agg #[.int .i64 a, .int .i64 b, .int .i64 c])).run Ybaf.prog W = .ok true W := by
    rw [show (10000 : Nat) = 9999 + 1 from rfl, run_equalIn_struct W 9999 50 _ _ hS hp]
    simp only [Program.fieldsOf, Ybaf.underlying50]
    go_simp
  simp [Op.equal, Op.maxDepth, h]
set_option maxHeartbeats 1000000 in
theorem equal_any (b1 c1 b2 c2 m : Nat) (M N F : Nat → Int) (w : World) (hm : m ≤ 65536) (hc1 : m ≤ c1) (hc2 : m ≤ c2)
    (h1 : ∀ i, i < m → w.cell? ⟨b1, i * 3, none⟩ = some (.int .i64 (M i)) ∧ w.cell? ⟨b1, i * 3 + 1, none⟩ = some (.int .i64 (N i)) ∧ w.cell? ⟨b1, i * 3 + 2, none⟩ = some (.int .i64 (F i)))
    (h2 : ∀ i, i < m → w.cell? ⟨b2, i * 3, none⟩ = some (.int .i64 (M i)) ∧ w.cell? ⟨b2, i * 3 + 1, none⟩ = some (.int .i64 (N i)) ∧ w.cell? ⟨b2, i * 3 + 2, none⟩ = some (.int .i64 (F i))) :
    Calls Ybaf.prog 10 #[.slice (some ⟨b1, 0, none⟩) m c1, .slice (some ⟨b2, 0, none⟩) m c2] w fun e w' => e = .returned (.bool true) ∧ ∃ q, w' = w.drewN q := by
  go_enter Ybaf.func10, Ybaf.ntmps10
  go_wp2_with fail
  go_loopg [13] m (fun g i wr => ∃ k q : Nat, k ≤ m ∧ g = m - k ∧ i = .int .i64 k ∧ wr = w.drewN q)
  case atStart => exact ⟨0, 0, Nat.zero_le _, rfl, rfl, rfl⟩
  case round =>
    obtain ⟨k, q, hk, rfl, rfl, rfl⟩ := hrel
    by_cases hlt : k < m
    · have hltz : (k : Int) < (m : Int) := by omega
      obtain ⟨r1, r2, r3⟩ := h1 k hlt
      obtain ⟨s1, s2, s3⟩ := h2 k hlt
      clear h1 h2
      have hne := neq_set
      go_wp2_with fail
      go_quiet (fail)
      go_wp2
      go_roundg (m - (k + 1))
      case measure => go_light; omega
      case rel => go_light; exact ⟨k + 1, q + nq, by omega, rfl, by simp, rfl⟩
    · obtain rfl : k = m := by omega
      clear h1 h2
      go_wp2
      go_ret
      exact ⟨rfl, _, rfl⟩
end Go.Proofs.YbulkdkkyFmt.B
