/-
  The numbers of a crash-detection layout ('Lay'), and the contracts of layOut (function 11), (layout).last (16), member (17), NewMessage (18).
-/
import Derived.Test.YbulkdkkyFmtRows
import Derived.WalkKit
import Derived.WalkSpells
import Derived.WalkLawsBesides
import Derived.BigQuiet
import Derived.Deep.QuietTactic
namespace Go.Proofs.YbulkdkkyFmt.B
open Go.RowKit
set_option linter.unusedVariables false

/-- The layout of n = X players, burst Y, K channels: set size S, C sets, H channels, U used, stretch T. -/
structure Lay (X Y K S C H U T : Int) : Prop where
  x1 : 1 ≤ X
  x2 : X ≤ 65536
  y1 : 1 ≤ Y
  y2 : Y ≤ 65536
  k1 : 0 ≤ K
  k2 : K ≤ 255
  sc : (4 * Y + 16 < X ∧ S = 2 * Y + 2 ∧ (X + (2 * Y + 2) - 1) / (2 * Y + 2) = C + 1) ∨ (X ≤ 4 * Y + 16 ∧ S = X ∧ C = 1)
  h : (K = 0 ∧ H = C) ∨ (1 ≤ K ∧ H = K)
  u : (C < H ∧ U = C) ∨ (H ≤ C ∧ U = H)
  t : (C + U - 1) / U = T

theorem Lay.exists (X Y K : Int) (x1 : 1 ≤ X) (x2 : X ≤ 65536) (y1 : 1 ≤ Y) (y2 : Y ≤ 65536) (k1 : 0 ≤ K) (k2 : K ≤ 255) : ∃ S C H U T, Lay X Y K S C H U T := by
  obtain ⟨S, C, hsc⟩ : ∃ S C : Int, (4 * Y + 16 < X ∧ S = 2 * Y + 2 ∧ (X + (2 * Y + 2) - 1) / (2 * Y + 2) = C + 1) ∨ (X ≤ 4 * Y + 16 ∧ S = X ∧ C = 1) := by
    by_cases h : 4 * Y + 16 < X
    · exact ⟨_, (X + (2 * Y + 2) - 1) / (2 * Y + 2) - 1, Or.inl ⟨h, rfl, by omega⟩⟩
    · exact ⟨_, _, Or.inr ⟨by omega, rfl, rfl⟩⟩
  obtain ⟨H, hh⟩ : ∃ H : Int, (K = 0 ∧ H = C) ∨ (1 ≤ K ∧ H = K) := by
    by_cases h : K = 0
    · exact ⟨_, Or.inl ⟨h, rfl⟩⟩
    · exact ⟨_, Or.inr ⟨by omega, rfl⟩⟩
  obtain ⟨U, hu⟩ : ∃ U : Int, (C < H ∧ U = C) ∨ (H ≤ C ∧ U = H) := by
    by_cases h : C < H
    · exact ⟨_, Or.inl ⟨h, rfl⟩⟩
    · exact ⟨_, Or.inr ⟨by omega, rfl⟩⟩
  exact ⟨S, C, H, U, _, x1, x2, y1, y2, k1, k2, hsc, hh, hu, rfl⟩

theorem Lay.s1 {X Y K S C H U T : Int} (h : Lay X Y K S C H U T) : 1 ≤ S := by have := h.x1; have := h.y1; rcases h.sc with h | h <;> omega
theorem Lay.s2 {X Y K S C H U T : Int} (h : Lay X Y K S C H U T) : S ≤ X := by have := h.x1; have := h.y1; rcases h.sc with h | h <;> omega
/-- All sets but the last are full, and the last is not empty. -/
theorem Lay.cs {X Y K S C H U T : Int} (h : Lay X Y K S C H U T) : 1 ≤ C ∧ (C - 1) * S + 1 ≤ X := by
  have := h.x1; have := h.y1
  rcases h.sc with ⟨h1, h2, h3⟩ | ⟨h1, h2, h3⟩
  · subst h2
    have hm := Int.mul_ediv_add_emod (X + (2 * Y + 2) - 1) (2 * Y + 2)
    have hr := Int.emod_lt_of_pos (X + (2 * Y + 2) - 1) (show 0 < 2 * Y + 2 by omega)
    have hr0 := Int.emod_nonneg (X + (2 * Y + 2) - 1) (show 2 * Y + 2 ≠ 0 by omega)
    rw [h3] at hm
    generalize (X + (2 * Y + 2) - 1) % (2 * Y + 2) = r at hm hr hr0
    have e1 : (2 * Y + 2) * (C + 1) = (2 * Y + 2) * C + (2 * Y + 2) := by rw [Int.mul_add, Int.mul_one]
    have e2 : (C - 1) * (2 * Y + 2) = (2 * Y + 2) * C - (2 * Y + 2) := by rw [Int.sub_mul, Int.one_mul, Int.mul_comm]
    refine ⟨?_, by omega⟩
    by_cases hc : C < 1
    · exfalso
      have : (2 * Y + 2) * C ≤ (2 * Y + 2) * 0 := Int.mul_le_mul_of_nonneg_left (by omega) (by omega)
      omega
    · omega
  · subst h2 h3
    refine ⟨by omega, by simp; omega⟩
theorem Lay.c1 {X Y K S C H U T : Int} (h : Lay X Y K S C H U T) : 1 ≤ C := h.cs.1
theorem Lay.c2 {X Y K S C H U T : Int} (h : Lay X Y K S C H U T) : C ≤ X := by
  have h1 := h.cs.2
  have h2 := h.s1
  have : C - 1 ≤ (C - 1) * S := by
    have := Int.mul_le_mul_of_nonneg_left h2 (show 0 ≤ C - 1 by have := h.c1; omega)
    omega
  omega
theorem Lay.u1 {X Y K S C H U T : Int} (h : Lay X Y K S C H U T) : 1 ≤ U := by have := h.c1; have := h.k1; rcases h.h with h1 | h1 <;> rcases h.u with h2 | h2 <;> omega
theorem Lay.u2 {X Y K S C H U T : Int} (h : Lay X Y K S C H U T) : U ≤ C := by rcases h.u with h2 | h2 <;> omega
theorem Lay.t1 {X Y K S C H U T : Int} (h : Lay X Y K S C H U T) : 1 ≤ T := by
  rw [← h.t]
  have := h.c1
  exact (Int.le_ediv_iff_mul_le (by have := h.u1; omega)).2 (by omega)
theorem Lay.t2 {X Y K S C H U T : Int} (h : Lay X Y K S C H U T) : T ≤ C := by
  have hu := h.u1
  have hc := h.c1
  rw [← h.t]
  refine Int.le_of_lt_add_one ((Int.ediv_lt_iff_lt_mul (by omega)).2 ?_)
  have h1 : (C + 1) * 1 ≤ (C + 1) * U := Int.mul_le_mul_of_nonneg_left hu (by omega)
  have h2 : (C + 1) * U = C * U + U := by rw [Int.add_mul, Int.one_mul]
  have h3 : C * 1 ≤ C * U := Int.mul_le_mul_of_nonneg_left hu (by omega)
  omega

set_option maxHeartbeats 1000000 in
theorem layOut_any (X Y K S C H U T : Int) (w : World) (hL : Lay X Y K S C H U T) :
    Calls Ybaf.prog 11 #[.int .i64 X, .int .i64 Y, .int .i64 K] w fun e w' => e = .returned (.agg #[.int .i64 X, .int .i64 S, .int .i64 C, .int .i64 H, .int .i64 U, .int .i64 T]) ∧ Below w.heap.size w w' := by
  have c1 := hL.c1; have c2 := hL.c2; have u1 := hL.u1; have u2 := hL.u2; have t1 := hL.t1
  obtain ⟨x1, x2, y1, y2, k1, k2, sc, hh, uu, tt⟩ := hL
  rcases sc with ⟨hc, rfl, hQ⟩ | ⟨hc, rfl, rfl⟩
  · obtain ⟨Q, hQ', rfl⟩ : ∃ Q, (X + (2 * Y + 2) - 1) / (2 * Y + 2) = Q ∧ C = Q - 1 := ⟨_, rfl, by omega⟩
    clear hQ
    rcases hh with ⟨rfl, rfl⟩ | ⟨hk, rfl⟩
    · obtain rfl : U = Q - 1 := by omega
      clear uu
      go_enter Ybaf.func11, Ybaf.ntmps11
      go_wp2
      exact bodyPost_ret (v := .agg #[.int .i64 X, .int .i64 (2 * Y + 2), .int .i64 (Q - 1), .int .i64 (Q - 1), .int .i64 (Q - 1), .int .i64 T]) (by simp [results, Ybaf.results11, go_sem]) rfl ⟨rfl, ((Below.refl _ _).alloc (Nat.le_refl _) _).alloc (by simp) _⟩
    · rcases uu with ⟨hu, rfl⟩ | ⟨hu, rfl⟩
      · go_enter Ybaf.func11, Ybaf.ntmps11
        go_wp2
        exact bodyPost_ret (v := .agg #[.int .i64 X, .int .i64 (2 * Y + 2), .int .i64 (Q - 1), .int .i64 H, .int .i64 (Q - 1), .int .i64 T]) (by simp [results, Ybaf.results11, go_sem]) rfl ⟨rfl, ((Below.refl _ _).alloc (Nat.le_refl _) _).alloc (by simp) _⟩
      · go_enter Ybaf.func11, Ybaf.ntmps11
        go_wp2
        exact bodyPost_ret (v := .agg #[.int .i64 X, .int .i64 (2 * Y + 2), .int .i64 (Q - 1), .int .i64 U, .int .i64 U, .int .i64 T]) (by simp [results, Ybaf.results11, go_sem]) rfl ⟨rfl, ((Below.refl _ _).alloc (Nat.le_refl _) _).alloc (by simp) _⟩
  · have hc' : ¬ 4 * Y + 16 < S := by omega
    obtain rfl : U = 1 := by omega
    clear uu
    obtain rfl : T = 1 := by rw [← tt]; rfl
    clear tt
    clear c1 u1 u2 t1
    rcases hh with ⟨rfl, rfl⟩ | ⟨hk, rfl⟩
    · go_enter Ybaf.func11, Ybaf.ntmps11
      go_wp2
      exact bodyPost_ret (v := .agg #[.int .i64 S, .int .i64 S, .int .i64 1, .int .i64 1, .int .i64 1, .int .i64 1]) (by simp [results, Ybaf.results11, go_sem]) rfl ⟨rfl, ((Below.refl _ _).alloc (Nat.le_refl _) _).alloc (by simp) _⟩
    · by_cases h1 : H = 1
      · subst h1
        go_enter Ybaf.func11, Ybaf.ntmps11
        go_wp2
        exact bodyPost_ret (v := .agg #[.int .i64 S, .int .i64 S, .int .i64 1, .int .i64 1, .int .i64 1, .int .i64 1]) (by simp [results, Ybaf.results11, go_sem]) rfl ⟨rfl, ((Below.refl _ _).alloc (Nat.le_refl _) _).alloc (by simp) _⟩
      · have h1' : 1 < H := by omega
        clear h1
        go_enter Ybaf.func11, Ybaf.ntmps11
        go_wp2
        exact bodyPost_ret (v := .agg #[.int .i64 S, .int .i64 S, .int .i64 1, .int .i64 H, .int .i64 1, .int .i64 1]) (by simp [results, Ybaf.results11, go_sem]) rfl ⟨rfl, ((Below.refl _ _).alloc (Nat.le_refl _) _).alloc (by simp) _⟩

set_option maxHeartbeats 1000000 in
theorem last_any (X S C H U T P : Int) (w : World) (x1 : 1 ≤ X) (x2 : X ≤ 65536) (c1 : 1 ≤ C) (c2 : C ≤ X) (hP : (C - 1) * S = P) (p1 : 0 ≤ P) (p2 : P ≤ 65536) :
    Calls Ybaf.prog 16 #[.agg #[.int .i64 X, .int .i64 S, .int .i64 C, .int .i64 H, .int .i64 U, .int .i64 T]] w fun e w' => e = .returned (.int .i64 (X - P)) ∧
      w' = w.alloc (.cells #[.int .i64 X, .int .i64 S, .int .i64 C, .int .i64 H, .int .i64 U, .int .i64 T] 43) := by
  go_enter Ybaf.func16, Ybaf.ntmps16
  go_wp2
  go_ret
  exact ⟨rfl, rfl⟩

set_option maxHeartbeats 1000000 in
/-- member: the set's index I and the place in it. -/
theorem member_any (A : Nat) (pl S C D I P : Int) (w : World) (p1 : 0 ≤ pl) (p2 : pl ≤ 65535) (s1 : 1 ≤ S) (s2 : S ≤ 65536) (c1 : 1 ≤ C) (c2 : C ≤ 65536) (hD : pl / S = D) (d1 : 0 ≤ D) (d2 : D ≤ pl)
    (hI : (D ≤ C - 1 ∧ I = D) ∨ (C - 1 < D ∧ I = C - 1)) (hP : I * S = P) (q1 : 0 ≤ P) (q2 : P ≤ pl)
    (hs : w.cell? ⟨A, 1, none⟩ = some (.int .i64 S)) (hc : w.cell? ⟨A, 2, none⟩ = some (.int .i64 C)) :
    Calls Ybaf.prog 17 #[.pointer (some ⟨A, 0, none⟩), .int .i64 pl] w fun e w' => e = .returned (.tuple #[.int .i64 I, .int .i64 (pl - P)]) ∧ ∃ q, w' = w.drewN q := by
  rcases hI with ⟨hi, rfl⟩ | ⟨hi, rfl⟩
  · go_enter Ybaf.func17, Ybaf.ntmps17
    go_wp2_with fail
    go_region
    go_wp2_with fail
    go_quiet (fail)
    go_wp2_with fail
    go_ret2
    exact ⟨rfl, _, World.drewN_drewN w 1 nq⟩
  · go_enter Ybaf.func17, Ybaf.ntmps17
    go_wp2_with fail
    go_region
    go_wp2_with fail
    go_quiet (fail)
    go_wp2_with fail
    go_ret2
    exact ⟨rfl, _, World.drewN_drewN w 1 nq⟩

theorem size3 : (Ybaf.prog.info? 3).map (·.size) = some 1 := by kernel_rfl
theorem setRow_alloc (w : World) (c c' : Array Value) (t : TypeId) : (w.alloc (.cells c t)).setRow w.heap.size c' = w.alloc (.cells c' t) := by
  unfold World.setRow World.alloc
  congr 1
  apply Array.ext
  · simp
  · intro k h1 h2
    simp only [Array.getElem_modify, Array.getElem_push]
    by_cases e : w.heap.size = k
    · subst e; simp
    · have hk : k < w.heap.size := by simp at h2; omega
      simp [e, hk]

theorem copy_ids (b : Nat) (pl : Int) (w : World) (hc : w.cell? ⟨b, 0, none⟩ = some (.int .i64 pl)) (o : Obj) :
    ∀ ty, (Builtin.copy_ #[30, 30] ty #[.slice (some ⟨w.heap.size + 1, 0, none⟩) 4 4, .slice (some ⟨b, 0, none⟩) 1 1]).run Ybaf.prog ((w.alloc o).alloc (.cells #[.int .i64 0, .int .i64 0, .int .i64 0, .int .i64 0] 70)) =
      .ok (goInt 1) ((w.alloc o).alloc (.cells #[.int .i64 pl, .int .i64 0, .int .i64 0, .int .i64 0] 70)) := by
  intro ty
  have hsz : (w.alloc o).heap.size = w.heap.size + 1 := by simp
  have h := run_copy_row (P := Ybaf.prog) ((w.alloc o).alloc (.cells #[.int .i64 0, .int .i64 0, .int .i64 0, .int .i64 0] 70)) 30 30 ty 3 (w.heap.size + 1) 0 4 4 ⟨b, 0, none⟩ 1 1 #[.int .i64 0, .int .i64 0, .int .i64 0, .int .i64 0] 70 [.int .i64 pl]
    Ybaf.underlying30 size3 (by rw [← hsz]; exact heap_alloc_new _ _) rfl (fun j v hv => by
      match j, hv with
      | 0, hv =>
        simp at hv
        subst hv
        have := cell_later (((Below.refl w.heap.size w).alloc (Nat.le_refl _) o).alloc (by simp) (.cells #[.int .i64 0, .int .i64 0, .int .i64 0, .int .i64 0] 70)) hc
        simpa [Addr.add] using this) (by simp) (fun v hv => by simp at hv; subst hv; rfl)
  rw [h, ← hsz, setRow_alloc]
  rfl

set_option maxHeartbeats 1000000 in
theorem newMessage_any (b : Nat) (pl : Int) (w : World) (hc : w.cell? ⟨b, 0, none⟩ = some (.int .i64 pl)) :
    Calls Ybaf.prog 18 #[.slice (some ⟨b, 0, none⟩) 1 1] w fun e w' => e = .returned (.agg #[.int .i64 pl, .int .i64 0, .int .i64 0, .int .i64 0, .int .i64 1]) ∧
      w' = (w.alloc (.cells #[.int .i64 pl, .int .i64 0, .int .i64 0, .int .i64 0, .int .i64 1] 53)).alloc (.cells #[.int .i64 pl, .int .i64 0, .int .i64 0, .int .i64 0] 70) := by
  have hcp := copy_ids b pl w hc
  go_enter Ybaf.func18, Ybaf.ntmps18
  go_wp2
  exact bodyPost_ret (v := .agg #[.int .i64 pl, .int .i64 0, .int .i64 0, .int .i64 0, .int .i64 1]) (by simp [results, Ybaf.results18, go_sem]) rfl ⟨rfl, rfl⟩
/-- The same at a slice that has just been laid. -/
theorem newMessage_new (pl : Int) (W : World) (b : Nat) (hb : b = W.heap.size) :
    Calls Ybaf.prog 18 #[.slice (some ⟨b, 0, none⟩) 1 1] (W.alloc (.cells #[.int .i64 pl] 3)) fun e w' => e = .returned (.agg #[.int .i64 pl, .int .i64 0, .int .i64 0, .int .i64 0, .int .i64 1]) ∧
      w' = ((W.alloc (.cells #[.int .i64 pl] 3)).alloc (.cells #[.int .i64 pl, .int .i64 0, .int .i64 0, .int .i64 0, .int .i64 1] 53)).alloc (.cells #[.int .i64 pl, .int .i64 0, .int .i64 0, .int .i64 0] 70) := by
  subst hb
  exact newMessage_any _ pl _ (by simp)

theorem below_two {w : World} (o1 o2 : Obj) (q r : Nat) : Below w.heap.size w ((((w.alloc o1).drewN q).alloc o2).drewN r) :=
  below_drewN (Below.alloc (below_drewN (Below.alloc (Below.refl _ _) (Nat.le_refl _) _) _) (by simp) _) _
theorem below_seven {B b : Nat} {a w : World} (h : Below B a w) (hb : B ≤ b) (v0 v1 v2 v3 v4 v5 v6 : Value) :
    Below B a (((((((w.setCell ⟨b, 0, none⟩ v0).setCell ⟨b, 1, none⟩ v1).setCell ⟨b, 2, none⟩ v2).setCell ⟨b, 3, none⟩ v3).setCell ⟨b, 4, none⟩ v4).setCell ⟨b, 5, none⟩ v5).setCell ⟨b, 6, none⟩ v6) :=
  (((((((h.setCell hb _).setCell hb _).setCell hb _).setCell hb _).setCell hb _).setCell hb _).setCell hb _)
theorem below_alloc3 {a w : World} (h : Below a.heap.size a w) (o1 o2 o3 : Obj) : Below a.heap.size a (((w.alloc o1).alloc o2).alloc o3) := by
  have hs := h.size
  exact ((h.alloc hs _).alloc (by simp; omega) _).alloc (by simp; omega) _
end Go.Proofs.YbulkdkkyFmt.B
