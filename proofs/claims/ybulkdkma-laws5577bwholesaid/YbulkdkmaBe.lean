/-
  internal/byteorder.BEUint64 (function 24), math/big.bigEndianWord (20).
-/
import Derived.Test.YbulkdkmaBase
namespace Go.Proofs.Ybulkdkma.N
open Go.RowKit Go.Deep
set_option linter.unusedVariables false

set_option maxHeartbeats 8000000 in
set_option maxRecDepth 100000 in
theorem be64 (a : Addr) (c : Nat) (w : World) (b0 b1 b2 b3 b4 b5 b6 b7 : Nat) (h0 : b0 < 256) (h1 : b1 < 256) (h2 : b2 < 256) (h3 : b3 < 256) (h4 : b4 < 256) (h5 : b5 < 256) (h6 : b6 < 256) (h7 : b7 < 256)
    (c0 : w.cell? a = some (.int .u8 b0)) (c1 : w.cell? (a.add 1) = some (.int .u8 b1)) (c2 : w.cell? (a.add 2) = some (.int .u8 b2)) (c3 : w.cell? (a.add 3) = some (.int .u8 b3))
    (c4 : w.cell? (a.add 4) = some (.int .u8 b4)) (c5 : w.cell? (a.add 5) = some (.int .u8 b5)) (c6 : w.cell? (a.add 6) = some (.int .u8 b6)) (c7 : w.cell? (a.add 7) = some (.int .u8 b7)) :
    Calls Yba.prog 24 #[.slice (some a) 8 c] w fun e w' => e = .returned (.int .u64 ((b7 + b6 * 256 + b5 * 65536 + b4 * 16777216 + b3 * 4294967296 + b2 * 1099511627776 + b1 * 281474976710656 + b0 * 72057594037927936 : Nat) : Int)) ∧ ∃ q, w' = w.drewN q := by
  have d1 : w.cell? ⟨a.block, a.off + 1, none⟩ = some (.int .u8 b1) := by simpa [Addr.add] using c1
  have d2 : w.cell? ⟨a.block, a.off + 2, none⟩ = some (.int .u8 b2) := by simpa [Addr.add] using c2
  have d3 : w.cell? ⟨a.block, a.off + 3, none⟩ = some (.int .u8 b3) := by simpa [Addr.add] using c3
  have d4 : w.cell? ⟨a.block, a.off + 4, none⟩ = some (.int .u8 b4) := by simpa [Addr.add] using c4
  have d5 : w.cell? ⟨a.block, a.off + 5, none⟩ = some (.int .u8 b5) := by simpa [Addr.add] using c5
  have d6 : w.cell? ⟨a.block, a.off + 6, none⟩ = some (.int .u8 b6) := by simpa [Addr.add] using c6
  have d7 : w.cell? ⟨a.block, a.off + 7, none⟩ = some (.int .u8 b7) := by simpa [Addr.add] using c7
  clear c1 c2 c3 c4 c5 c6 c7
  go_enter Yba.func24, Yba.ntmps24
  go_wp2_with fail
  go_quiet (fail)
  go_wp2
  go_ret
  refine ⟨?_, _, rfl⟩
  simp (disch := omega) only [u64_or8, u64_or16, u64_or24, u64_or32, u64_or40, u64_or48, u64_or56]
  refine congrArg (fun z => Ending.returned (.int .u64 z)) ?_
  omega

/-- The eight bytes ahead of the place i spell the word k, where 8 k bytes lie behind them. -/
theorem bew (a : Addr) (i c : Nat) (w : World) (m : Nat → Nat) (B : Nat) (hm : ∀ u, m u < 256) (hc : ∀ j, j < 8 → w.cell? (a.add (i + j)) = some (.int .u8 (m (B + 7 - j) : Nat))) :
    Calls Yba.prog 20 #[.slice (some (a.add i)) 8 c] w fun e w' => e = .returned (.int .u64 (le m B 8 : Nat)) ∧ ∃ q, w' = w.drewN q := by
  have hcl := be64 (a.add i) c w (m (B + 7)) (m (B + 6)) (m (B + 5)) (m (B + 4)) (m (B + 3)) (m (B + 2)) (m (B + 1)) (m B) (hm _) (hm _) (hm _) (hm _) (hm _) (hm _) (hm _) (hm _) (hc 0 (by omega)) (by rw [Addr.add_add]; exact hc 1 (by omega))
    (by rw [Addr.add_add]; exact hc 2 (by omega)) (by rw [Addr.add_add]; exact hc 3 (by omega)) (by rw [Addr.add_add]; exact hc 4 (by omega)) (by rw [Addr.add_add]; exact hc 5 (by omega)) (by rw [Addr.add_add]; exact hc 6 (by omega)) (by rw [Addr.add_add]; exact hc 7 (by omega))
  rw [← le8] at hcl
  have CL : Hid (Calls _ _ _ _ _) := hcl
  clear hcl hc
  go_enter Yba.func20, Yba.ntmps20
  go_wp2_with (go_at_call 24; refine CL.out.mono ?_; rintro e w1 ⟨rfl, q, rfl⟩)
  go_ret
  exact ⟨rfl, q, rfl⟩
end Go.Proofs.Ybulkdkma.N
