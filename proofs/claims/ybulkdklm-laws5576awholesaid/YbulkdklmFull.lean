/-
  (*elementIndex).put at a full page.
-/
import Derived.Test.YbulkdklmAdd
namespace Go.Proofs.Ybulkdklm.E
open Go.RowKit Go.Deep
set_option linter.unusedVariables false

set_option maxHeartbeats 4000000 in
set_option maxRecDepth 100000 in
theorem put_lo (w : World) (D B p g0 cap0 g c j s : Nat) (I : Int) (hs : List Value) (ps : List Nat) (h : Idx w D B (.slice (some ⟨g0, 0, none⟩) hs.length cap0) hs) (hp : p < hs.length) (hgp : hs.getD p undef = .slice (some ⟨g, 0, none⟩) 128 c)
    (hps : Pg w B (.slice (some ⟨g, 0, none⟩) 128 c) ps) (hlen : ps.length = 128) (hm : hs.length ≤ 1000) (hone : ∀ u, u ∈ hs → u.oneCell' = true) (hj : j ≤ 64) (hI : I + 1 = j) :
    Calls Yba.prog 4 #[.pointer (some ⟨D, 0, none⟩), .int .i64 p, .int .i64 I, ptr s] w fun e w' => e = .returned (.tuple #[]) ∧ ∃ v' h1 h2, Idx w' D B v' (hs.take p ++ h1 :: h2 :: hs.drop (p + 1)) ∧ Pg w' B h1 (ins (ps.take 64) j s) ∧ Pg w' B h2 (ps.drop 64) ∧ Kept (Mine w D) w w' := by
  obtain ⟨j2, hj2⟩ : ∃ j2, j2 = j := ⟨_, rfl⟩
  have hc := full_lo w D B p g0 cap0 g c j j2 p s hs ps h hp hgp hps hlen hm hone (by omega) rfl
  have hw : IntKind.i64.wrap (I + 1) = (j2 : Int) := by rw [hI, IntKind.wrap_i64]; omega
  have hI64 : I < 64 := by omega
  obtain ⟨g0', cap0', hv0, hB0, hc0, hc1, hcell, hfro, hg0, hDg⟩ := h.shape (by omega)
  cases hv0
  have d0 : w.cell? ⟨D, 0, none⟩ = some (.slice (some ⟨g0, 0, none⟩) hs.length cap0) := h.box.cell (by omega)
  have cp : w.cell? ⟨g0, p, none⟩ = some (.slice (some ⟨g, 0, none⟩) 128 c) := by rw [hcell p hp, hgp]
  have hm0 : hs.length ≠ 0 := by omega
  have CL : Hid (Calls _ _ _ _ _) := hc
  have HJ : Hid (j2 = j) := hj2
  clear hc hcell hfro hgp hps h hlen hI hone hj2 hj
  go_enter Yba.func4, Yba.ntmps4
  go_wp2_with (go_at_call 5; refine CL.out.mono ?_; rintro e wc ⟨g1, m1, cap1, a1, c1, gq, cq, rfl, y1, y2, y3, y4, y5, y6, y7, y8, y9, C6⟩; cases y2.symm.trans y3; clear y3)
  all_goals go_region_with (go_at_call 6; refine C6.out.mono ?_; rintro e w1 ⟨g3, c3, rfl, z1, z2, z3, FIN⟩)
  all_goals go_wp2_with fail
  all_goals go_end0
  all_goals exact ⟨rfl, by rw [← HJ.out]; exact FIN.out⟩

set_option maxHeartbeats 4000000 in
set_option maxRecDepth 100000 in
theorem put_hi (w : World) (D B p g0 cap0 g c j s : Nat) (I : Int) (hs : List Value) (ps : List Nat) (h : Idx w D B (.slice (some ⟨g0, 0, none⟩) hs.length cap0) hs) (hp : p < hs.length) (hgp : hs.getD p undef = .slice (some ⟨g, 0, none⟩) 128 c)
    (hps : Pg w B (.slice (some ⟨g, 0, none⟩) 128 c) ps) (hlen : ps.length = 128) (hm : hs.length ≤ 1000) (hone : ∀ u, u ∈ hs → u.oneCell' = true) (hj : 65 ≤ j ∧ j ≤ 128) (hI : I + 1 = j) :
    Calls Yba.prog 4 #[.pointer (some ⟨D, 0, none⟩), .int .i64 p, .int .i64 I, ptr s] w fun e w' => e = .returned (.tuple #[]) ∧ ∃ v' h1 h2, Idx w' D B v' (hs.take p ++ h1 :: h2 :: hs.drop (p + 1)) ∧ Pg w' B h1 (ps.take 64) ∧ Pg w' B h2 (ins (ps.drop 64) (j - 64) s) ∧ Kept (Mine w D) w w' := by
  obtain ⟨q, hq⟩ : ∃ q, q = p + 1 := ⟨_, rfl⟩
  obtain ⟨j2, hj2⟩ : ∃ j2, j2 = j - 64 := ⟨_, rfl⟩
  have hc := full_hi w D B p g0 cap0 g c j j2 q s hs ps h hp hgp hps hlen hm hone (by omega) hq
  obtain ⟨I2, hI2⟩ : ∃ I2 : Int, I2 = I - 64 := ⟨_, rfl⟩
  have hw0 : IntKind.i64.wrap ((p : Int) + 1) = (q : Int) := by rw [IntKind.wrap_i64]; omega
  have hw1 : IntKind.i64.wrap (I - 64) = I2 := by rw [IntKind.wrap_i64]; omega
  have hw : IntKind.i64.wrap (I2 + 1) = (j2 : Int) := by rw [IntKind.wrap_i64]; omega
  have hI64 : 64 ≤ I := by omega
  obtain ⟨g0', cap0', hv0, hB0, hc0, hc1, hcell, hfro, hg0, hDg⟩ := h.shape (by omega)
  cases hv0
  have d0 : w.cell? ⟨D, 0, none⟩ = some (.slice (some ⟨g0, 0, none⟩) hs.length cap0) := h.box.cell (by omega)
  have cp : w.cell? ⟨g0, p, none⟩ = some (.slice (some ⟨g, 0, none⟩) 128 c) := by rw [hcell p hp, hgp]
  have hm0 : hs.length ≠ 0 := by omega
  have CL : Hid (Calls _ _ _ _ _) := hc
  have HJ : Hid (j2 = j - 64) := hj2
  clear hc hcell hfro hgp hps h hlen hI hone hj2 hj hq hI2
  go_enter Yba.func4, Yba.ntmps4
  go_wp2_with (go_at_call 5; refine CL.out.mono ?_; rintro e wc ⟨g1, m1, cap1, a1, c1, gq, cq, rfl, y1, y2, y3, y4, y5, y6, y7, y8, y9, C6⟩)
  all_goals go_region_with (go_at_call 6; refine C6.out.mono ?_; rintro e w1 ⟨g3, c3, rfl, z1, z2, z3, FIN⟩)
  all_goals go_wp2_with fail
  all_goals go_end0
  all_goals exact ⟨rfl, by rw [← HJ.out]; exact FIN.out⟩
end Go.Proofs.Ybulkdklm.E
