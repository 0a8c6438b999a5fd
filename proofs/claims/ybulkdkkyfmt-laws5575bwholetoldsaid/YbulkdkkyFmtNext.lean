/-
  (*CrashDetection).Next (function 9).
-/
import Derived.Test.YbulkdkkyFmtLay
import Derived.BigRegion
import Derived.Deep.RegionWith
import Derived.Deep.DeepCutAuto
namespace Go.Proofs.YbulkdkkyFmt.B
open Go.RowKit
set_option linter.unusedVariables false

/-- What Next reads, and the numbers that it reckons with. -/
structure NextIn (w : World) (A G n i : Nat) (pl S T D P M N F E1 E2 : Int) : Prop where
  p1 : 0 ≤ pl
  p2 : pl ≤ 65535
  s1 : 1 ≤ S
  s2 : S ≤ 65536
  c1 : 1 ≤ (n : Int)
  c2 : (n : Int) ≤ 65536
  t1 : 1 ≤ T
  t2 : T ≤ 65536
  hD : pl / S = D
  d1 : 0 ≤ D
  d2 : D ≤ pl
  hI : (D ≤ (n : Int) - 1 ∧ (i : Int) = D) ∨ ((n : Int) - 1 < D ∧ (i : Int) = (n : Int) - 1)
  hP : (i : Int) * S = P
  q1 : 0 ≤ P
  q2 : P ≤ pl
  m1 : 1 ≤ M
  m2 : M ≤ 65536
  f1 : 1 ≤ F
  f2 : F ≤ 65536
  e1 : (M - 1) * T = E1
  e10 : 0 ≤ E1
  e11 : E1 ≤ 4294967296
  e2 : (pl - P) * T = E2
  e20 : 0 ≤ E2
  e21 : E2 ≤ 4294967296
  aS : w.cell? ⟨A, 1, none⟩ = some (.int .i64 S)
  aC : w.cell? ⟨A, 2, none⟩ = some (.int .i64 n)
  aT : w.cell? ⟨A, 5, none⟩ = some (.int .i64 T)
  aG : w.cell? ⟨A, 6, none⟩ = some (.slice (some ⟨G, 0, none⟩) n n)
  g0 : w.cell? ⟨G, i * 3, none⟩ = some (.int .i64 M)
  g1 : w.cell? ⟨G, i * 3 + 1, none⟩ = some (.int .i64 N)
  g2 : w.cell? ⟨G, i * 3 + 2, none⟩ = some (.int .i64 F)

set_option maxHeartbeats 2000000 in
set_option maxRecDepth 100000 in
theorem next_other0 (w : World) (A G n i : Nat) (pl S T D P M N F E1 E2 : Int) (h : NextIn w A G n i pl S T D P M N F E1 E2) (hne : E2 ≠ 0) :
    Calls Ybaf.prog 9 #[.pointer (some ⟨A, 0, none⟩), .int .i64 pl, .int .i64 0] w fun e w' => e = .returned (.tuple #[.int .i64 F, .agg #[.int .u8 2, .int .i64 N, .int .i64 0, .int .i64 0, .int .i64 0, .int .i64 0, .int .i64 0]]) ∧ Below w.heap.size w w' := by
  have mem := fun W (h1 : W.cell? ⟨A, 1, none⟩ = some (.int .i64 S)) (h2 : W.cell? ⟨A, 2, none⟩ = some (.int .i64 n)) => member_any A pl S n D i P W h.p1 h.p2 h.s1 h.s2 h.c1 h.c2 h.hD h.d1 h.d2 h.hI h.hP h.q1 h.q2 h1 h2
  have MEM : Hid (∀ W : World, W.cell? ⟨A, 1, none⟩ = some (.int .i64 S) → W.cell? ⟨A, 2, none⟩ = some (.int .i64 n) → Calls _ _ _ _ _) := mem
  have hin : (i : Int) < (n : Int) := by have := h.hI; have := h.c1; omega
  obtain ⟨p1, p2, s1, s2, c1, c2, t1, t2, hD, d1, d2, hI, hP, q1, q2, m1, m2, f1, f2, e1, e10, e11, e2, e20, e21, aS, aC, aT, aG, g0, g1, g2⟩ := h
  clear mem hD hI hP d1 d2
  have hA : A < w.heap.size := World.block_lt_of_cell? _ _ aS
  have hG : G < w.heap.size := World.block_lt_of_cell? _ _ g0
  have hq : (F == E2 + F) = false := by simp; omega
  go_enter Ybaf.func9, Ybaf.ntmps9
  go_wp2_with fail
  refine (MEM.out _ (cell_later ((Below.refl _ _).alloc (Nat.le_refl _) _) aS) (cell_later ((Below.refl _ _).alloc (Nat.le_refl _) _) aC)).mono ?_
  rintro e w1 ⟨rfl, q, rfl⟩
  clear MEM aS aC
  go_wp2_with fail
  go_quiet (fail)
  go_wp2_with fail
  go_quiet (fail)
  go_wp2_with fail
  go_region
  go_wp2_with fail
  exact bodyPost_ret (v := .tuple #[.int .i64 F, .agg #[.int .u8 2, .int .i64 N, .int .i64 0, .int .i64 0, .int .i64 0, .int .i64 0, .int .i64 0]]) (by simp [results, Ybaf.results9, go_sem]) rfl ⟨rfl, below_seven (below_two _ _ _ _) (Nat.le_refl _) _ _ _ _ _ _ _⟩
set_option maxHeartbeats 2000000 in
set_option maxRecDepth 100000 in
theorem next_hello0 (w : World) (A G n i : Nat) (pl S T D P M N F E1 E2 : Int) (h : NextIn w A G n i pl S T D P M N F E1 E2) (hne : E2 = 0) :
    Calls Ybaf.prog 9 #[.pointer (some ⟨A, 0, none⟩), .int .i64 pl, .int .i64 0] w fun e w' => e = .returned (.tuple #[.int .i64 F, .agg #[.int .u8 1, .int .i64 N, .int .i64 pl, .int .i64 0, .int .i64 0, .int .i64 0, .int .i64 1]]) ∧ Below w.heap.size w w' := by
  have mem := fun W (h1 : W.cell? ⟨A, 1, none⟩ = some (.int .i64 S)) (h2 : W.cell? ⟨A, 2, none⟩ = some (.int .i64 n)) => member_any A pl S n D i P W h.p1 h.p2 h.s1 h.s2 h.c1 h.c2 h.hD h.d1 h.d2 h.hI h.hP h.q1 h.q2 h1 h2
  have MEM : Hid (∀ W : World, W.cell? ⟨A, 1, none⟩ = some (.int .i64 S) → W.cell? ⟨A, 2, none⟩ = some (.int .i64 n) → Calls _ _ _ _ _) := mem
  have hin : (i : Int) < (n : Int) := by have := h.hI; have := h.c1; omega
  obtain ⟨p1, p2, s1, s2, c1, c2, t1, t2, hD, d1, d2, hI, hP, q1, q2, m1, m2, f1, f2, e1, e10, e11, e2, e20, e21, aS, aC, aT, aG, g0, g1, g2⟩ := h
  clear mem hD hI hP d1 d2
  have hA : A < w.heap.size := World.block_lt_of_cell? _ _ aS
  have hG : G < w.heap.size := World.block_lt_of_cell? _ _ g0
  have hq : (F == E2 + F) = true := by simp; omega
  clear hne
  go_enter Ybaf.func9, Ybaf.ntmps9
  go_wp2_with fail
  refine (MEM.out _ (cell_later ((Below.refl _ _).alloc (Nat.le_refl _) _) aS) (cell_later ((Below.refl _ _).alloc (Nat.le_refl _) _) aC)).mono ?_
  rintro e w1 ⟨rfl, q, rfl⟩
  clear MEM aS aC
  go_wp2_with fail
  go_quiet (fail)
  go_wp2_with fail
  go_quiet (fail)
  go_wp2_with fail
  go_region_with (go_at_call 18; refine (newMessage_new pl _ _ ?_).mono ?_; (focus simp); rintro e w2 ⟨rfl, rfl⟩)
  all_goals go_wp2_with fail
  all_goals exact bodyPost_ret (v := .tuple #[.int .i64 F, .agg #[.int .u8 1, .int .i64 N, .int .i64 pl, .int .i64 0, .int .i64 0, .int .i64 0, .int .i64 1]]) (by simp [results, Ybaf.results9, go_sem]) rfl ⟨rfl, below_alloc3 (below_seven (below_two _ _ _ _) (Nat.le_refl _) _ _ _ _ _ _ _) _ _ _⟩
set_option maxHeartbeats 2000000 in
set_option maxRecDepth 100000 in
theorem next_past (w : World) (A G n i : Nat) (pl S T D P M N F E1 E2 sl : Int) (h : NextIn w A G n i pl S T D P M N F E1 E2) (hs : sl ≠ 0) (V : Int) (hV : wrap64 (sl + T) = V) (hgt : E1 + F < V) :
    Calls Ybaf.prog 9 #[.pointer (some ⟨A, 0, none⟩), .int .i64 pl, .int .i64 sl] w fun e w' => e = .returned (.tuple #[.int .i64 0, .agg #[.int .u8 0, .int .i64 0, .int .i64 0, .int .i64 0, .int .i64 0, .int .i64 0, .int .i64 0]]) ∧ Below w.heap.size w w' := by
  have mem := fun W (h1 : W.cell? ⟨A, 1, none⟩ = some (.int .i64 S)) (h2 : W.cell? ⟨A, 2, none⟩ = some (.int .i64 n)) => member_any A pl S n D i P W h.p1 h.p2 h.s1 h.s2 h.c1 h.c2 h.hD h.d1 h.d2 h.hI h.hP h.q1 h.q2 h1 h2
  have MEM : Hid (∀ W : World, W.cell? ⟨A, 1, none⟩ = some (.int .i64 S) → W.cell? ⟨A, 2, none⟩ = some (.int .i64 n) → Calls _ _ _ _ _) := mem
  have hin : (i : Int) < (n : Int) := by have := h.hI; have := h.c1; omega
  obtain ⟨p1, p2, s1, s2, c1, c2, t1, t2, hD, d1, d2, hI, hP, q1, q2, m1, m2, f1, f2, e1, e10, e11, e2, e20, e21, aS, aC, aT, aG, g0, g1, g2⟩ := h
  clear mem hD hI hP d1 d2
  have hA : A < w.heap.size := World.block_lt_of_cell? _ _ aS
  have hG : G < w.heap.size := World.block_lt_of_cell? _ _ g0
  have hs0 : (sl != 0) = true := by simpa using hs
  clear hs
  go_enter Ybaf.func9, Ybaf.ntmps9
  go_wp2_with fail
  refine (MEM.out _ (cell_later ((Below.refl _ _).alloc (Nat.le_refl _) _) aS) (cell_later ((Below.refl _ _).alloc (Nat.le_refl _) _) aC)).mono ?_
  rintro e w1 ⟨rfl, q, rfl⟩
  clear MEM aS aC
  go_wp2_with fail
  go_quiet (fail)
  go_wp2_with fail
  exact bodyPost_ret (v := .tuple #[.int .i64 0, .agg #[.int .u8 0, .int .i64 0, .int .i64 0, .int .i64 0, .int .i64 0, .int .i64 0, .int .i64 0]]) (by simp [results, Ybaf.results9, go_sem]) rfl ⟨rfl, below_seven (below_two _ _ _ _) (Nat.le_refl _) _ _ _ _ _ _ _⟩
set_option maxHeartbeats 2000000 in
set_option maxRecDepth 100000 in
theorem next_hello (w : World) (A G n i : Nat) (pl S T D P M N F E1 E2 sl : Int) (h : NextIn w A G n i pl S T D P M N F E1 E2) (hs : sl ≠ 0) (V : Int) (hV : wrap64 (sl + T) = V) (hgt : V ≤ E1 + F) (he : V = E2 + F) :
    Calls Ybaf.prog 9 #[.pointer (some ⟨A, 0, none⟩), .int .i64 pl, .int .i64 sl] w fun e w' => e = .returned (.tuple #[.int .i64 V, .agg #[.int .u8 1, .int .i64 N, .int .i64 pl, .int .i64 0, .int .i64 0, .int .i64 0, .int .i64 1]]) ∧ Below w.heap.size w w' := by
  have mem := fun W (h1 : W.cell? ⟨A, 1, none⟩ = some (.int .i64 S)) (h2 : W.cell? ⟨A, 2, none⟩ = some (.int .i64 n)) => member_any A pl S n D i P W h.p1 h.p2 h.s1 h.s2 h.c1 h.c2 h.hD h.d1 h.d2 h.hI h.hP h.q1 h.q2 h1 h2
  have MEM : Hid (∀ W : World, W.cell? ⟨A, 1, none⟩ = some (.int .i64 S) → W.cell? ⟨A, 2, none⟩ = some (.int .i64 n) → Calls _ _ _ _ _) := mem
  have hin : (i : Int) < (n : Int) := by have := h.hI; have := h.c1; omega
  obtain ⟨p1, p2, s1, s2, c1, c2, t1, t2, hD, d1, d2, hI, hP, q1, q2, m1, m2, f1, f2, e1, e10, e11, e2, e20, e21, aS, aC, aT, aG, g0, g1, g2⟩ := h
  clear mem hD hI hP d1 d2
  have hA : A < w.heap.size := World.block_lt_of_cell? _ _ aS
  have hG : G < w.heap.size := World.block_lt_of_cell? _ _ g0
  have hs0 : (sl != 0) = true := by simpa using hs
  have hq : (V == E2 + F) = true := by simp; omega
  clear hs he
  go_enter Ybaf.func9, Ybaf.ntmps9
  go_wp2_with fail
  refine (MEM.out _ (cell_later ((Below.refl _ _).alloc (Nat.le_refl _) _) aS) (cell_later ((Below.refl _ _).alloc (Nat.le_refl _) _) aC)).mono ?_
  rintro e w1 ⟨rfl, q, rfl⟩
  clear MEM aS aC
  go_wp2_with fail
  go_quiet (fail)
  go_wp2_with fail
  go_quiet (fail)
  go_wp2_with fail
  go_region_with (go_at_call 18; refine (newMessage_new pl _ _ ?_).mono ?_; (focus simp); rintro e w2 ⟨rfl, rfl⟩)
  all_goals go_wp2_with fail
  all_goals exact bodyPost_ret (v := .tuple #[.int .i64 V, .agg #[.int .u8 1, .int .i64 N, .int .i64 pl, .int .i64 0, .int .i64 0, .int .i64 0, .int .i64 1]]) (by simp [results, Ybaf.results9, go_sem]) rfl ⟨rfl, below_alloc3 (below_seven (below_two _ _ _ _) (Nat.le_refl _) _ _ _ _ _ _ _) _ _ _⟩
set_option maxHeartbeats 2000000 in
set_option maxRecDepth 100000 in
theorem next_other (w : World) (A G n i : Nat) (pl S T D P M N F E1 E2 sl : Int) (h : NextIn w A G n i pl S T D P M N F E1 E2) (hs : sl ≠ 0) (V : Int) (hV : wrap64 (sl + T) = V) (hgt : V ≤ E1 + F) (he : V ≠ E2 + F) :
    Calls Ybaf.prog 9 #[.pointer (some ⟨A, 0, none⟩), .int .i64 pl, .int .i64 sl] w fun e w' => e = .returned (.tuple #[.int .i64 V, .agg #[.int .u8 2, .int .i64 N, .int .i64 0, .int .i64 0, .int .i64 0, .int .i64 0, .int .i64 0]]) ∧ Below w.heap.size w w' := by
  have mem := fun W (h1 : W.cell? ⟨A, 1, none⟩ = some (.int .i64 S)) (h2 : W.cell? ⟨A, 2, none⟩ = some (.int .i64 n)) => member_any A pl S n D i P W h.p1 h.p2 h.s1 h.s2 h.c1 h.c2 h.hD h.d1 h.d2 h.hI h.hP h.q1 h.q2 h1 h2
  have MEM : Hid (∀ W : World, W.cell? ⟨A, 1, none⟩ = some (.int .i64 S) → W.cell? ⟨A, 2, none⟩ = some (.int .i64 n) → Calls _ _ _ _ _) := mem
  have hin : (i : Int) < (n : Int) := by have := h.hI; have := h.c1; omega
  obtain ⟨p1, p2, s1, s2, c1, c2, t1, t2, hD, d1, d2, hI, hP, q1, q2, m1, m2, f1, f2, e1, e10, e11, e2, e20, e21, aS, aC, aT, aG, g0, g1, g2⟩ := h
  clear mem hD hI hP d1 d2
  have hA : A < w.heap.size := World.block_lt_of_cell? _ _ aS
  have hG : G < w.heap.size := World.block_lt_of_cell? _ _ g0
  have hs0 : (sl != 0) = true := by simpa using hs
  have hq : (V == E2 + F) = false := by simp; omega
  clear hs he
  go_enter Ybaf.func9, Ybaf.ntmps9
  go_wp2_with fail
  refine (MEM.out _ (cell_later ((Below.refl _ _).alloc (Nat.le_refl _) _) aS) (cell_later ((Below.refl _ _).alloc (Nat.le_refl _) _) aC)).mono ?_
  rintro e w1 ⟨rfl, q, rfl⟩
  clear MEM aS aC
  go_wp2_with fail
  go_quiet (fail)
  go_wp2_with fail
  go_quiet (fail)
  go_wp2_with fail
  go_region
  go_wp2_with fail
  exact bodyPost_ret (v := .tuple #[.int .i64 V, .agg #[.int .u8 2, .int .i64 N, .int .i64 0, .int .i64 0, .int .i64 0, .int .i64 0, .int .i64 0]]) (by simp [results, Ybaf.results9, go_sem, hV]) rfl ⟨rfl, below_seven (below_two _ _ _ _) (Nat.le_refl _) _ _ _ _ _ _ _⟩
end Go.Proofs.YbulkdkkyFmt.B
