/-
  THE WALK of LawS5575BWhole (function 4).
-/
import Derived.Test.YbulkdkkyFmtPre
namespace Go.Proofs.YbulkdkkyFmt.B
open Go.RowKit
set_option linter.unusedVariables false

set_option maxHeartbeats 4000000 in
set_option maxRecDepth 100000 in
theorem law_walk (a0 a1 a2 a3 a4 X Y pl S H U T D P P0 M R Q E1 E2 : Int) (n i : Nat) (w : World) (b00 : 0 ≤ a0) (b01 : a0 ≤ 65535) (b10 : 0 ≤ a1) (b11 : a1 ≤ 65535) (b20 : 0 ≤ a2) (b21 : a2 ≤ 255) (b30 : 0 ≤ a3) (b31 : a3 ≤ 4294967295)
    (hX : a0 + 1 = X) (hY : a1 + 1 = Y) (hpl : a3 % X = pl) (h : Nums X Y a2 pl S H U T D P P0 M R Q E1 E2 n i) :
    Calls Ybaf.prog 4 #[.int .u16 a0, .int .u16 a1, .int .u8 a2, .int .u32 a3, .int .i64 a4] w fun e w' => e = .returned (.bool true) ∧ Below w.heap.size w w' := by
  have x1 := h.lay.x1; have x2 := h.lay.x2; have y1 := h.lay.y1; have y2 := h.lay.y2; have c1 := h.lay.c1; have c2 := h.lay.c2; have s1 := h.lay.s1; have s2 := h.lay.s2
  have u1 := h.lay.u1; have u2 := h.lay.u2; have t1 := h.lay.t1; have t2 := h.lay.t2
  have p1 := h.p1; have p2 := h.p2
  have nw := new_any X Y a2 S H U T P0 n w h.lay h.hP0 h.q3 (by have := h.q4; omega)
  have NW : Hid (Calls _ _ _ _ _) := nw
  clear nw
  have hn1 : 1 ≤ n := by omega
  have hn2 : n ≤ 65536 := by omega
  go_enter Ybaf.func4, Ybaf.ntmps4
  go_wp2_with fail
  refine NW.out.mono ?_
  clear NW
  rintro e w1 ⟨L, A, G, Mp, rfl, hW⟩
  have A0 : w1.cell? ⟨A, 0, none⟩ = some (.int .i64 X) := hW.a.cell (i := 0) (by omega)
  have A1 : w1.cell? ⟨A, 1, none⟩ = some (.int .i64 S) := hW.a.cell (i := 1) (by omega)
  have A2 : w1.cell? ⟨A, 2, none⟩ = some (.int .i64 n) := hW.a.cell (i := 2) (by omega)
  have A3 : w1.cell? ⟨A, 3, none⟩ = some (.int .i64 H) := hW.a.cell (i := 3) (by omega)
  have A4 : w1.cell? ⟨A, 4, none⟩ = some (.int .i64 U) := hW.a.cell (i := 4) (by omega)
  have A5 : w1.cell? ⟨A, 5, none⟩ = some (.int .i64 T) := hW.a.cell (i := 5) (by omega)
  have A6 : w1.cell? ⟨A, 6, none⟩ = some (.slice (some ⟨G, 0, none⟩) n n) := hW.a.cell (i := 6) (by omega)
  have hA : A < w1.heap.size := hW.a.lt
  go_wp2_with fail
  have hW1 := hW.alloc (.cells #[.int .i64 X, .int .i64 S, .int .i64 n, .int .i64 H, .int .i64 U, .int .i64 T] 43)
  refine (clone_any G n n (newsE X S U P0 n) _ hn1 hn2 (newsE_length _ _ _ _ _) (fun j u hj => by obtain ⟨h1, rfl⟩ := newsE_get hj; exact hW1.g.cell h1) (newsE_one _ _ _ _ _)).mono ?_
  rintro e w2 ⟨g, cap, rfl, hcap, hgw, hgc, hb2⟩
  have hW2 := hW1.later hb2
  have l2 : w2.rowIs w1.heap.size 43 6 (lf X S H U T n) := by
    refine World.rowIs.of_block (World.rowIs_alloc w1 #[.int .i64 X, .int .i64 S, .int .i64 n, .int .i64 H, .int .i64 U, .int .i64 T] 43 _ (fun i hi => ?_)) (hb2.block _ (by simp))
    match i, hi with
    | 0, _ => rfl
    | 1, _ => rfl
    | 2, _ => rfl
    | 3, _ => rfl
    | 4, _ => rfl
    | 5, _ => rfl
  clear hb2 hW hW1 A0 A1 A2 A3 A4 A5 A6 hA
  have HN : Hid (Nums X Y a2 pl S H U T D P P0 M R Q E1 E2 n i) := h
  clear h hX hY hpl
  obtain ⟨bb, hbb⟩ : ∃ bb, decide (X ≤ 4 * Y + 16) = bb := ⟨_, rfl⟩
  go_upto_if 66 with fail
  go_cut [18, 19] (fun s18 s19 wc => s18 = .int .i64 S ∧ s19 = .int .i64 n ∧ w2 = wc)
  case first =>
    rcases HN.out.lay.sc with ⟨hc, hS, hQ⟩ | ⟨hc, hS, hC⟩
    · have HS : Hid (S = 2 * Y + 2) := hS
      obtain rfl : bb = false := by rw [← hbb]; simp; omega
      clear hS hbb
      go_wp2_with fail
      go_meet
      exact ⟨by rw [HS.out], rfl, rfl⟩
    · have HS : Hid (S = X ∧ (n : Int) = 1) := ⟨hS, hC⟩
      obtain rfl : bb = true := by rw [← hbb]; simp; omega
      clear hS hC hbb
      go_wp2_with fail
      go_meet
      exact ⟨by rw [HS.out.1], by rw [HS.out.2], rfl⟩
  case rest =>
  obtain ⟨rfl, rfl, rfl⟩ := hcut
  clear hbb
  go_upto_if 79 with fail
  go_cut [20] (fun s20 wc => s20 = .int .i64 H ∧ w2 = wc)
  case first =>
    rcases HN.out.lay.h with ⟨hk, hH⟩ | ⟨hk, hH⟩
    · have HH : Hid (H = n) := hH
      have hd : (a2 == 0) = true := by simp; omega
      clear hH hk
      go_wp2_with fail
      go_meet
      exact ⟨by rw [HH.out], rfl⟩
    · have HH : Hid (H = a2) := hH
      have hd : (a2 == 0) = false := by simp; omega
      clear hH hk
      go_wp2_with fail
      go_meet
      exact ⟨by rw [HH.out], rfl⟩
  case rest =>
  obtain ⟨rfl, rfl⟩ := hcut
  go_upto_if 84 with fail
  go_cut [21] (fun s21 wc => s21 = .int .i64 U ∧ w2 = wc)
  case first =>
    rcases HN.out.lay.u with ⟨hk, hU⟩ | ⟨hk, hU⟩
    · have HU : Hid (U = n) := hU
      clear hU
      go_wp2_with fail
      go_meet
      exact ⟨by rw [HU.out], rfl⟩
    · have HU : Hid (U = H) := hU
      have hk' : ¬ (n : Int) < H := by omega
      clear hU
      go_wp2_with fail
      go_meet
      exact ⟨by rw [HU.out], rfl⟩
  case rest =>
  obtain ⟨rfl, rfl⟩ := hcut
  have ht := HN.out.lay.t
  have hD := HN.out.hD
  have d1 := HN.out.d1
  have d2 := HN.out.d2
  have hi : (i : Int) ≤ (n : Int) - 1 := by have := HN.out.hI; omega
  go_upto_if 98 with fail
  go_cut [22, 23] (fun s22 s23 wc => s22 = .int .i64 T ∧ s23 = .int .i64 i ∧ w2 = wc)
  case first =>
    rcases HN.out.hI with ⟨hk, hI⟩ | ⟨hk, hI⟩
    · have HI : Hid ((i : Int) = D) := hI
      have hk' : ¬ (n : Int) - 1 < D := by omega
      clear hI
      go_wp2_with fail
      go_meet
      exact ⟨by first | rfl | rw [HN.out.lay.t], by rw [HI.out], rfl⟩
    · have HI : Hid ((i : Int) = (n : Int) - 1) := hI
      clear hI
      go_wp2_with fail
      go_meet
      exact ⟨by first | rfl | rw [HN.out.lay.t], by rw [HI.out], rfl⟩
  case rest =>
  obtain ⟨rfl, rfl, rfl⟩ := hcut
  clear hD d1 d2 ht
  go_upto_if 105 with fail
  go_cut [24] (fun s24 wc => s24 = .int .i64 M ∧ w2 = wc)
  case first =>
    have hP0 := HN.out.hP0
    have q3 := HN.out.q3
    have q4 := HN.out.q4
    rcases HN.out.hM with ⟨hk, hM⟩ | ⟨hk, hM⟩
    · have HM : Hid (M = X - P0) := hM
      have hd : ((i : Int) == (n : Int) - 1) = true := by simp; omega
      clear hM hk
      go_wp2_with fail
      go_meet
      exact ⟨by rw [HM.out], rfl⟩
    · have HM : Hid (M = S) := hM
      have hd : ((i : Int) == (n : Int) - 1) = false := by simp; omega
      clear hM
      go_wp2_with fail
      go_meet
      exact ⟨by rw [HM.out], rfl⟩
  case rest =>
  obtain ⟨rfl, rfl⟩ := hcut
  have hR := HN.out.hR; have r1 := HN.out.r1; have r2 := HN.out.r2; have hQ := HN.out.hQ; have f1 := HN.out.f1; have f2 := HN.out.f2
  have hP := HN.out.hP; have q1 := HN.out.q1; have q2 := HN.out.q2
  have m1 := HN.out.m1; have m2 := HN.out.m2; have e1 := HN.out.e1; have e10 := HN.out.e10; have e11 := HN.out.e11; have e2 := HN.out.e2; have e20 := HN.out.e20; have e21 := HN.out.e21
  go_upto_if 138 with fail
  have nin : ∀ o, NextIn (w2.alloc o) A G n i pl S T D P M (R + 1) (Q + 1) E1 E2 := fun o => by
    have hl := hW2.alloc o
    have hi3 : i * 3 + 2 < n * 3 := by omega
    exact ⟨p1, by omega, s1, by omega, c1, by omega, t1, by omega, HN.out.hD, HN.out.d1, HN.out.d2, HN.out.hI, hP, q1, q2, m1, m2, by omega, by omega, e1, e10, e11, e2, e20, e21,
      hl.a.cell (i := 1) (by omega), hl.a.cell (i := 2) (by omega), hl.a.cell (i := 5) (by omega), hl.a.cell (i := 6) (by omega),
      by rw [← rowE_0 (X := X) (S := S) (U := U) (P0 := P0) HN.out.hM hn1]; exact hl.g.cell (by omega), by rw [← hR, ← rowE_1 X S U P0 n i]; exact hl.g.cell (by omega), by rw [← hQ, ← rowE_2 X S U P0 n i]; exact hl.g.cell hi3⟩
  have NIN : Hid (∀ o, NextIn (w2.alloc o) A G n i pl S T D P M (R + 1) (Q + 1) E1 E2) := nin
  clear nin hR hQ hP e1 e2
  by_cases hs : a4 = 0
  · subst hs
    by_cases hz : E2 = 0
    · have hq : (Q + 1 == E2 + (Q + 1)) = true := by simp; omega
      have HZ : Hid (E2 = 0) := hz
      clear hz
      go_wp2_with fail
      refine (next_hello0 _ A G n i pl S T D P M (R + 1) (Q + 1) E1 E2 (NIN.out _) HZ.out).mono ?_
      rintro e w4 ⟨rfl, hb4⟩
      have hW4 := (hW2.alloc (.cells #[.int .u8 1, .int .i64 (R + 1), .int .i64 pl, .int .i64 0, .int .i64 0, .int .i64 0, .int .i64 1] 55)).later hb4
      have v0 : w4.cell? ⟨w2.heap.size, 0, none⟩ = some (.int .u8 1) := cell_later hb4 (by simp)
      have v1 : w4.cell? ⟨w2.heap.size, 1, none⟩ = some (.int .i64 (R + 1)) := cell_later hb4 (by simp)
      have v2 : w4.cell? ⟨w2.heap.size, 2, none⟩ = some (.int .i64 pl) := cell_later hb4 (by simp)
      have v3 : w4.cell? ⟨w2.heap.size, 3, none⟩ = some (.int .i64 0) := cell_later hb4 (by simp)
      have v4 : w4.cell? ⟨w2.heap.size, 4, none⟩ = some (.int .i64 0) := cell_later hb4 (by simp)
      have v5 : w4.cell? ⟨w2.heap.size, 5, none⟩ = some (.int .i64 0) := cell_later hb4 (by simp)
      have v6 : w4.cell? ⟨w2.heap.size, 6, none⟩ = some (.int .i64 1) := cell_later hb4 (by simp)
      have l4 : w4.rowIs w1.heap.size 43 6 (lf X S H U T n) := (l2.alloc _).of_block (hb4.block _ (l2.alloc _).lt)
      have L0 : w4.cell? ⟨w1.heap.size, 0, none⟩ = some (.int .i64 X) := l4.cell (i := 0) (by omega)
      have L1 : w4.cell? ⟨w1.heap.size, 1, none⟩ = some (.int .i64 S) := l4.cell (i := 1) (by omega)
      have L2 : w4.cell? ⟨w1.heap.size, 2, none⟩ = some (.int .i64 n) := l4.cell (i := 2) (by omega)
      have L3 : w4.cell? ⟨w1.heap.size, 3, none⟩ = some (.int .i64 H) := l4.cell (i := 3) (by omega)
      have L4 : w4.cell? ⟨w1.heap.size, 4, none⟩ = some (.int .i64 U) := l4.cell (i := 4) (by omega)
      have L5 : w4.cell? ⟨w1.heap.size, 5, none⟩ = some (.int .i64 T) := l4.cell (i := 5) (by omega)
      have A0 : w4.cell? ⟨A, 0, none⟩ = some (.int .i64 X) := hW4.a.cell (i := 0) (by omega)
      have A1 : w4.cell? ⟨A, 1, none⟩ = some (.int .i64 S) := hW4.a.cell (i := 1) (by omega)
      have A2 : w4.cell? ⟨A, 2, none⟩ = some (.int .i64 n) := hW4.a.cell (i := 2) (by omega)
      have A3 : w4.cell? ⟨A, 3, none⟩ = some (.int .i64 H) := hW4.a.cell (i := 3) (by omega)
      have A4 : w4.cell? ⟨A, 4, none⟩ = some (.int .i64 U) := hW4.a.cell (i := 4) (by omega)
      have A5 : w4.cell? ⟨A, 5, none⟩ = some (.int .i64 T) := hW4.a.cell (i := 5) (by omega)
      have A6 : w4.cell? ⟨A, 6, none⟩ = some (.slice (some ⟨G, 0, none⟩) n n) := hW4.a.cell (i := 6) (by omega)
      have A7 : w4.cell? ⟨A, 7, none⟩ = some (.map (some Mp)) := hW4.a.cell (i := 7) (by omega)
      have hA4 : A < w4.heap.size := hW4.a.lt
      have hL4 : w1.heap.size < w4.heap.size := l4.lt
      have hv4 : w2.heap.size < w4.heap.size := World.block_lt_of_cell? _ _ v0
      have na := neq_act
      have nl := neq_lay
      have hlen : ∀ o q ty, (Builtin.len_ #[45] ty #[.map (some Mp)]).run Ybaf.prog ((w4.alloc o).drewN q) = .ok (.int .i64 0) ((w4.alloc o).drewN q) := fun o q ty => len_map Mp _ ty (hW4.alloc o).m
      have heq : ∀ o q, Calls Ybaf.prog 10 #[.slice (some ⟨G, 0, none⟩) n n, .slice (some ⟨g, 0, none⟩) n cap] ((w4.alloc o).drewN q) fun e w' => e = .returned (.bool true) ∧ ∃ q', w' = ((w4.alloc o).drewN q).drewN q' := fun o q => by
        have hg2 : ∀ j, j < n * 3 → ((w4.alloc o).drewN q).cell? ⟨g, j, none⟩ = some (rowE X S U P0 n j) := fun j hj => by
          have h1 := hgc j _ (newsE_at X S U P0 hj)
          have h2 : (w2.alloc (.cells #[.int .u8 1, .int .i64 (R + 1), .int .i64 pl, .int .i64 0, .int .i64 0, .int .i64 0, .int .i64 1] 55)).cell? ⟨g, j, none⟩ = some (rowE X S U P0 n j) := Lib.cell?_alloc_some _ h1
          exact Lib.cell?_alloc_some _ (cell_later hb4 h2)
        have hg1 : ∀ j, j < n * 3 → ((w4.alloc o).drewN q).cell? ⟨G, j, none⟩ = some (rowE X S U P0 n j) := fun j hj => (hW4.alloc o).g.cell hj
        refine equal_any G n g cap n (fun j => if (j : Int) = (n : Int) - 1 then X - P0 else S) (fun j => (j : Int) % U + 1) (fun j => (j : Int) / U + 1) _ hn2 (Nat.le_refl _) hcap (fun j hj => ?_) (fun j hj => ?_)
        · exact ⟨by rw [hg1 _ (by omega), rowE_0' X S U P0 hj], by rw [hg1 _ (by omega), rowE_1], by rw [hg1 _ (by omega), rowE_2]⟩
        · exact ⟨by rw [hg2 _ (by omega), rowE_0' X S U P0 hj], by rw [hg2 _ (by omega), rowE_1], by rw [hg2 _ (by omega), rowE_2]⟩
      have HEQ : Hid (∀ o q, Calls _ _ _ _ _) := heq
      have hbw4 := hW4.below
      clear heq hgc hb4 hW4 hW2 l4 l2
      go_wp2_with fail
      go_quiet ((go_at_call 10; exact Calls.quiet_of (HEQ.out _ _)))
      go_wp2
      go_ret
      exact ⟨rfl, below_drewN (hbw4.alloc hbw4.size _) _⟩
    · have hq : (Q + 1 == E2 + (Q + 1)) = false := by simp; omega
      go_wp2_with fail
      refine (next_other0 _ A G n i pl S T D P M (R + 1) (Q + 1) E1 E2 (NIN.out _) hz).mono ?_
      rintro e w4 ⟨rfl, hb4⟩
      have hW4 := (hW2.alloc (.cells #[.int .u8 2, .int .i64 (R + 1), .int .i64 0, .int .i64 0, .int .i64 0, .int .i64 0, .int .i64 0] 55)).later hb4
      have v0 : w4.cell? ⟨w2.heap.size, 0, none⟩ = some (.int .u8 2) := cell_later hb4 (by simp)
      have v1 : w4.cell? ⟨w2.heap.size, 1, none⟩ = some (.int .i64 (R + 1)) := cell_later hb4 (by simp)
      have v2 : w4.cell? ⟨w2.heap.size, 2, none⟩ = some (.int .i64 0) := cell_later hb4 (by simp)
      have v3 : w4.cell? ⟨w2.heap.size, 3, none⟩ = some (.int .i64 0) := cell_later hb4 (by simp)
      have v4 : w4.cell? ⟨w2.heap.size, 4, none⟩ = some (.int .i64 0) := cell_later hb4 (by simp)
      have v5 : w4.cell? ⟨w2.heap.size, 5, none⟩ = some (.int .i64 0) := cell_later hb4 (by simp)
      have v6 : w4.cell? ⟨w2.heap.size, 6, none⟩ = some (.int .i64 0) := cell_later hb4 (by simp)
      have l4 : w4.rowIs w1.heap.size 43 6 (lf X S H U T n) := (l2.alloc _).of_block (hb4.block _ (l2.alloc _).lt)
      have L0 : w4.cell? ⟨w1.heap.size, 0, none⟩ = some (.int .i64 X) := l4.cell (i := 0) (by omega)
      have L1 : w4.cell? ⟨w1.heap.size, 1, none⟩ = some (.int .i64 S) := l4.cell (i := 1) (by omega)
      have L2 : w4.cell? ⟨w1.heap.size, 2, none⟩ = some (.int .i64 n) := l4.cell (i := 2) (by omega)
      have L3 : w4.cell? ⟨w1.heap.size, 3, none⟩ = some (.int .i64 H) := l4.cell (i := 3) (by omega)
      have L4 : w4.cell? ⟨w1.heap.size, 4, none⟩ = some (.int .i64 U) := l4.cell (i := 4) (by omega)
      have L5 : w4.cell? ⟨w1.heap.size, 5, none⟩ = some (.int .i64 T) := l4.cell (i := 5) (by omega)
      have A0 : w4.cell? ⟨A, 0, none⟩ = some (.int .i64 X) := hW4.a.cell (i := 0) (by omega)
      have A1 : w4.cell? ⟨A, 1, none⟩ = some (.int .i64 S) := hW4.a.cell (i := 1) (by omega)
      have A2 : w4.cell? ⟨A, 2, none⟩ = some (.int .i64 n) := hW4.a.cell (i := 2) (by omega)
      have A3 : w4.cell? ⟨A, 3, none⟩ = some (.int .i64 H) := hW4.a.cell (i := 3) (by omega)
      have A4 : w4.cell? ⟨A, 4, none⟩ = some (.int .i64 U) := hW4.a.cell (i := 4) (by omega)
      have A5 : w4.cell? ⟨A, 5, none⟩ = some (.int .i64 T) := hW4.a.cell (i := 5) (by omega)
      have A6 : w4.cell? ⟨A, 6, none⟩ = some (.slice (some ⟨G, 0, none⟩) n n) := hW4.a.cell (i := 6) (by omega)
      have A7 : w4.cell? ⟨A, 7, none⟩ = some (.map (some Mp)) := hW4.a.cell (i := 7) (by omega)
      have hA4 : A < w4.heap.size := hW4.a.lt
      have hL4 : w1.heap.size < w4.heap.size := l4.lt
      have hv4 : w2.heap.size < w4.heap.size := World.block_lt_of_cell? _ _ v0
      have na := neq_act
      have nl := neq_lay
      have hlen : ∀ o q ty, (Builtin.len_ #[45] ty #[.map (some Mp)]).run Ybaf.prog ((w4.alloc o).drewN q) = .ok (.int .i64 0) ((w4.alloc o).drewN q) := fun o q ty => len_map Mp _ ty (hW4.alloc o).m
      have heq : ∀ o q, Calls Ybaf.prog 10 #[.slice (some ⟨G, 0, none⟩) n n, .slice (some ⟨g, 0, none⟩) n cap] ((w4.alloc o).drewN q) fun e w' => e = .returned (.bool true) ∧ ∃ q', w' = ((w4.alloc o).drewN q).drewN q' := fun o q => by
        have hg2 : ∀ j, j < n * 3 → ((w4.alloc o).drewN q).cell? ⟨g, j, none⟩ = some (rowE X S U P0 n j) := fun j hj => by
          have h1 := hgc j _ (newsE_at X S U P0 hj)
          have h2 : (w2.alloc (.cells #[.int .u8 2, .int .i64 (R + 1), .int .i64 0, .int .i64 0, .int .i64 0, .int .i64 0, .int .i64 0] 55)).cell? ⟨g, j, none⟩ = some (rowE X S U P0 n j) := Lib.cell?_alloc_some _ h1
          exact Lib.cell?_alloc_some _ (cell_later hb4 h2)
        have hg1 : ∀ j, j < n * 3 → ((w4.alloc o).drewN q).cell? ⟨G, j, none⟩ = some (rowE X S U P0 n j) := fun j hj => (hW4.alloc o).g.cell hj
        refine equal_any G n g cap n (fun j => if (j : Int) = (n : Int) - 1 then X - P0 else S) (fun j => (j : Int) % U + 1) (fun j => (j : Int) / U + 1) _ hn2 (Nat.le_refl _) hcap (fun j hj => ?_) (fun j hj => ?_)
        · exact ⟨by rw [hg1 _ (by omega), rowE_0' X S U P0 hj], by rw [hg1 _ (by omega), rowE_1], by rw [hg1 _ (by omega), rowE_2]⟩
        · exact ⟨by rw [hg2 _ (by omega), rowE_0' X S U P0 hj], by rw [hg2 _ (by omega), rowE_1], by rw [hg2 _ (by omega), rowE_2]⟩
      have HEQ : Hid (∀ o q, Calls _ _ _ _ _) := heq
      have hbw4 := hW4.below
      clear heq hgc hb4 hW4 hW2 l4 l2
      go_wp2_with fail
      go_quiet ((go_at_call 10; exact Calls.quiet_of (HEQ.out _ _)))
      go_wp2
      go_ret
      exact ⟨rfl, below_drewN (hbw4.alloc hbw4.size _) _⟩
  · have hs0 : (a4 != 0) = true := by simpa using hs
    have HS4 : Hid (a4 ≠ 0) := hs
    clear hs
    obtain ⟨V, hV⟩ : ∃ V, wrap64 (a4 + T) = V := ⟨_, rfl⟩
    have HV : Hid (wrap64 (a4 + T) = V) := hV
    by_cases hgt : E1 + (Q + 1) < V
    · go_wp2_with fail
      refine (next_past _ A G n i pl S T D P M (R + 1) (Q + 1) E1 E2 a4 (NIN.out _) HS4.out V HV.out hgt).mono ?_
      rintro e w4 ⟨rfl, hb4⟩
      have hW4 := (hW2.alloc (.cells #[.int .u8 0, .int .i64 0, .int .i64 0, .int .i64 0, .int .i64 0, .int .i64 0, .int .i64 0] 55)).later hb4
      have v0 : w4.cell? ⟨w2.heap.size, 0, none⟩ = some (.int .u8 0) := cell_later hb4 (by simp)
      have v1 : w4.cell? ⟨w2.heap.size, 1, none⟩ = some (.int .i64 0) := cell_later hb4 (by simp)
      have v2 : w4.cell? ⟨w2.heap.size, 2, none⟩ = some (.int .i64 0) := cell_later hb4 (by simp)
      have v3 : w4.cell? ⟨w2.heap.size, 3, none⟩ = some (.int .i64 0) := cell_later hb4 (by simp)
      have v4 : w4.cell? ⟨w2.heap.size, 4, none⟩ = some (.int .i64 0) := cell_later hb4 (by simp)
      have v5 : w4.cell? ⟨w2.heap.size, 5, none⟩ = some (.int .i64 0) := cell_later hb4 (by simp)
      have v6 : w4.cell? ⟨w2.heap.size, 6, none⟩ = some (.int .i64 0) := cell_later hb4 (by simp)
      have l4 : w4.rowIs w1.heap.size 43 6 (lf X S H U T n) := (l2.alloc _).of_block (hb4.block _ (l2.alloc _).lt)
      have L0 : w4.cell? ⟨w1.heap.size, 0, none⟩ = some (.int .i64 X) := l4.cell (i := 0) (by omega)
      have L1 : w4.cell? ⟨w1.heap.size, 1, none⟩ = some (.int .i64 S) := l4.cell (i := 1) (by omega)
      have L2 : w4.cell? ⟨w1.heap.size, 2, none⟩ = some (.int .i64 n) := l4.cell (i := 2) (by omega)
      have L3 : w4.cell? ⟨w1.heap.size, 3, none⟩ = some (.int .i64 H) := l4.cell (i := 3) (by omega)
      have L4 : w4.cell? ⟨w1.heap.size, 4, none⟩ = some (.int .i64 U) := l4.cell (i := 4) (by omega)
      have L5 : w4.cell? ⟨w1.heap.size, 5, none⟩ = some (.int .i64 T) := l4.cell (i := 5) (by omega)
      have A0 : w4.cell? ⟨A, 0, none⟩ = some (.int .i64 X) := hW4.a.cell (i := 0) (by omega)
      have A1 : w4.cell? ⟨A, 1, none⟩ = some (.int .i64 S) := hW4.a.cell (i := 1) (by omega)
      have A2 : w4.cell? ⟨A, 2, none⟩ = some (.int .i64 n) := hW4.a.cell (i := 2) (by omega)
      have A3 : w4.cell? ⟨A, 3, none⟩ = some (.int .i64 H) := hW4.a.cell (i := 3) (by omega)
      have A4 : w4.cell? ⟨A, 4, none⟩ = some (.int .i64 U) := hW4.a.cell (i := 4) (by omega)
      have A5 : w4.cell? ⟨A, 5, none⟩ = some (.int .i64 T) := hW4.a.cell (i := 5) (by omega)
      have A6 : w4.cell? ⟨A, 6, none⟩ = some (.slice (some ⟨G, 0, none⟩) n n) := hW4.a.cell (i := 6) (by omega)
      have A7 : w4.cell? ⟨A, 7, none⟩ = some (.map (some Mp)) := hW4.a.cell (i := 7) (by omega)
      have hA4 : A < w4.heap.size := hW4.a.lt
      have hL4 : w1.heap.size < w4.heap.size := l4.lt
      have hv4 : w2.heap.size < w4.heap.size := World.block_lt_of_cell? _ _ v0
      have na := neq_act
      have nl := neq_lay
      have hlen : ∀ o q ty, (Builtin.len_ #[45] ty #[.map (some Mp)]).run Ybaf.prog ((w4.alloc o).drewN q) = .ok (.int .i64 0) ((w4.alloc o).drewN q) := fun o q ty => len_map Mp _ ty (hW4.alloc o).m
      have heq : ∀ o q, Calls Ybaf.prog 10 #[.slice (some ⟨G, 0, none⟩) n n, .slice (some ⟨g, 0, none⟩) n cap] ((w4.alloc o).drewN q) fun e w' => e = .returned (.bool true) ∧ ∃ q', w' = ((w4.alloc o).drewN q).drewN q' := fun o q => by
        have hg2 : ∀ j, j < n * 3 → ((w4.alloc o).drewN q).cell? ⟨g, j, none⟩ = some (rowE X S U P0 n j) := fun j hj => by
          have h1 := hgc j _ (newsE_at X S U P0 hj)
          have h2 : (w2.alloc (.cells #[.int .u8 0, .int .i64 0, .int .i64 0, .int .i64 0, .int .i64 0, .int .i64 0, .int .i64 0] 55)).cell? ⟨g, j, none⟩ = some (rowE X S U P0 n j) := Lib.cell?_alloc_some _ h1
          exact Lib.cell?_alloc_some _ (cell_later hb4 h2)
        have hg1 : ∀ j, j < n * 3 → ((w4.alloc o).drewN q).cell? ⟨G, j, none⟩ = some (rowE X S U P0 n j) := fun j hj => (hW4.alloc o).g.cell hj
        refine equal_any G n g cap n (fun j => if (j : Int) = (n : Int) - 1 then X - P0 else S) (fun j => (j : Int) % U + 1) (fun j => (j : Int) / U + 1) _ hn2 (Nat.le_refl _) hcap (fun j hj => ?_) (fun j hj => ?_)
        · exact ⟨by rw [hg1 _ (by omega), rowE_0' X S U P0 hj], by rw [hg1 _ (by omega), rowE_1], by rw [hg1 _ (by omega), rowE_2]⟩
        · exact ⟨by rw [hg2 _ (by omega), rowE_0' X S U P0 hj], by rw [hg2 _ (by omega), rowE_1], by rw [hg2 _ (by omega), rowE_2]⟩
      have HEQ : Hid (∀ o q, Calls _ _ _ _ _) := heq
      have hbw4 := hW4.below
      clear heq hgc hb4 hW4 hW2 l4 l2
      go_wp2_with fail
      go_quiet ((go_at_call 10; exact Calls.quiet_of (HEQ.out _ _)))
      go_wp2
      go_ret
      exact ⟨rfl, below_drewN (hbw4.alloc hbw4.size _) _⟩
    · have hle : V ≤ E1 + (Q + 1) := by omega
      by_cases he : V = E2 + (Q + 1)
      · have hq : (V == E2 + (Q + 1)) = true := by simp; omega
        have HE : Hid (V = E2 + (Q + 1)) := he
        clear he
        go_wp2_with fail
        refine (next_hello _ A G n i pl S T D P M (R + 1) (Q + 1) E1 E2 a4 (NIN.out _) HS4.out V HV.out hle HE.out).mono ?_
        rintro e w4 ⟨rfl, hb4⟩
        have hW4 := (hW2.alloc (.cells #[.int .u8 1, .int .i64 (R + 1), .int .i64 pl, .int .i64 0, .int .i64 0, .int .i64 0, .int .i64 1] 55)).later hb4
        have v0 : w4.cell? ⟨w2.heap.size, 0, none⟩ = some (.int .u8 1) := cell_later hb4 (by simp)
        have v1 : w4.cell? ⟨w2.heap.size, 1, none⟩ = some (.int .i64 (R + 1)) := cell_later hb4 (by simp)
        have v2 : w4.cell? ⟨w2.heap.size, 2, none⟩ = some (.int .i64 pl) := cell_later hb4 (by simp)
        have v3 : w4.cell? ⟨w2.heap.size, 3, none⟩ = some (.int .i64 0) := cell_later hb4 (by simp)
        have v4 : w4.cell? ⟨w2.heap.size, 4, none⟩ = some (.int .i64 0) := cell_later hb4 (by simp)
        have v5 : w4.cell? ⟨w2.heap.size, 5, none⟩ = some (.int .i64 0) := cell_later hb4 (by simp)
        have v6 : w4.cell? ⟨w2.heap.size, 6, none⟩ = some (.int .i64 1) := cell_later hb4 (by simp)
        have l4 : w4.rowIs w1.heap.size 43 6 (lf X S H U T n) := (l2.alloc _).of_block (hb4.block _ (l2.alloc _).lt)
        have L0 : w4.cell? ⟨w1.heap.size, 0, none⟩ = some (.int .i64 X) := l4.cell (i := 0) (by omega)
        have L1 : w4.cell? ⟨w1.heap.size, 1, none⟩ = some (.int .i64 S) := l4.cell (i := 1) (by omega)
        have L2 : w4.cell? ⟨w1.heap.size, 2, none⟩ = some (.int .i64 n) := l4.cell (i := 2) (by omega)
        have L3 : w4.cell? ⟨w1.heap.size, 3, none⟩ = some (.int .i64 H) := l4.cell (i := 3) (by omega)
        have L4 : w4.cell? ⟨w1.heap.size, 4, none⟩ = some (.int .i64 U) := l4.cell (i := 4) (by omega)
        have L5 : w4.cell? ⟨w1.heap.size, 5, none⟩ = some (.int .i64 T) := l4.cell (i := 5) (by omega)
        have A0 : w4.cell? ⟨A, 0, none⟩ = some (.int .i64 X) := hW4.a.cell (i := 0) (by omega)
        have A1 : w4.cell? ⟨A, 1, none⟩ = some (.int .i64 S) := hW4.a.cell (i := 1) (by omega)
        have A2 : w4.cell? ⟨A, 2, none⟩ = some (.int .i64 n) := hW4.a.cell (i := 2) (by omega)
        have A3 : w4.cell? ⟨A, 3, none⟩ = some (.int .i64 H) := hW4.a.cell (i := 3) (by omega)
        have A4 : w4.cell? ⟨A, 4, none⟩ = some (.int .i64 U) := hW4.a.cell (i := 4) (by omega)
        have A5 : w4.cell? ⟨A, 5, none⟩ = some (.int .i64 T) := hW4.a.cell (i := 5) (by omega)
        have A6 : w4.cell? ⟨A, 6, none⟩ = some (.slice (some ⟨G, 0, none⟩) n n) := hW4.a.cell (i := 6) (by omega)
        have A7 : w4.cell? ⟨A, 7, none⟩ = some (.map (some Mp)) := hW4.a.cell (i := 7) (by omega)
        have hA4 : A < w4.heap.size := hW4.a.lt
        have hL4 : w1.heap.size < w4.heap.size := l4.lt
        have hv4 : w2.heap.size < w4.heap.size := World.block_lt_of_cell? _ _ v0
        have na := neq_act
        have nl := neq_lay
        have hlen : ∀ o q ty, (Builtin.len_ #[45] ty #[.map (some Mp)]).run Ybaf.prog ((w4.alloc o).drewN q) = .ok (.int .i64 0) ((w4.alloc o).drewN q) := fun o q ty => len_map Mp _ ty (hW4.alloc o).m
        have heq : ∀ o q, Calls Ybaf.prog 10 #[.slice (some ⟨G, 0, none⟩) n n, .slice (some ⟨g, 0, none⟩) n cap] ((w4.alloc o).drewN q) fun e w' => e = .returned (.bool true) ∧ ∃ q', w' = ((w4.alloc o).drewN q).drewN q' := fun o q => by
          have hg2 : ∀ j, j < n * 3 → ((w4.alloc o).drewN q).cell? ⟨g, j, none⟩ = some (rowE X S U P0 n j) := fun j hj => by
            have h1 := hgc j _ (newsE_at X S U P0 hj)
            have h2 : (w2.alloc (.cells #[.int .u8 1, .int .i64 (R + 1), .int .i64 pl, .int .i64 0, .int .i64 0, .int .i64 0, .int .i64 1] 55)).cell? ⟨g, j, none⟩ = some (rowE X S U P0 n j) := Lib.cell?_alloc_some _ h1
            exact Lib.cell?_alloc_some _ (cell_later hb4 h2)
          have hg1 : ∀ j, j < n * 3 → ((w4.alloc o).drewN q).cell? ⟨G, j, none⟩ = some (rowE X S U P0 n j) := fun j hj => (hW4.alloc o).g.cell hj
          refine equal_any G n g cap n (fun j => if (j : Int) = (n : Int) - 1 then X - P0 else S) (fun j => (j : Int) % U + 1) (fun j => (j : Int) / U + 1) _ hn2 (Nat.le_refl _) hcap (fun j hj => ?_) (fun j hj => ?_)
          · exact ⟨by rw [hg1 _ (by omega), rowE_0' X S U P0 hj], by rw [hg1 _ (by omega), rowE_1], by rw [hg1 _ (by omega), rowE_2]⟩
          · exact ⟨by rw [hg2 _ (by omega), rowE_0' X S U P0 hj], by rw [hg2 _ (by omega), rowE_1], by rw [hg2 _ (by omega), rowE_2]⟩
        have HEQ : Hid (∀ o q, Calls _ _ _ _ _) := heq
        have hbw4 := hW4.below
        clear heq hgc hb4 hW4 hW2 l4 l2
        go_wp2_with fail
        go_quiet ((go_at_call 10; exact Calls.quiet_of (HEQ.out _ _)))
        go_wp2
        go_ret
        exact ⟨rfl, below_drewN (hbw4.alloc hbw4.size _) _⟩
      · have hq : (V == E2 + (Q + 1)) = false := by simp; omega
        go_wp2_with fail
        refine (next_other _ A G n i pl S T D P M (R + 1) (Q + 1) E1 E2 a4 (NIN.out _) HS4.out V HV.out hle he).mono ?_
        rintro e w4 ⟨rfl, hb4⟩
        have hW4 := (hW2.alloc (.cells #[.int .u8 2, .int .i64 (R + 1), .int .i64 0, .int .i64 0, .int .i64 0, .int .i64 0, .int .i64 0] 55)).later hb4
        have v0 : w4.cell? ⟨w2.heap.size, 0, none⟩ = some (.int .u8 2) := cell_later hb4 (by simp)
        have v1 : w4.cell? ⟨w2.heap.size, 1, none⟩ = some (.int .i64 (R + 1)) := cell_later hb4 (by simp)
        have v2 : w4.cell? ⟨w2.heap.size, 2, none⟩ = some (.int .i64 0) := cell_later hb4 (by simp)
        have v3 : w4.cell? ⟨w2.heap.size, 3, none⟩ = some (.int .i64 0) := cell_later hb4 (by simp)
        have v4 : w4.cell? ⟨w2.heap.size, 4, none⟩ = some (.int .i64 0) := cell_later hb4 (by simp)
        have v5 : w4.cell? ⟨w2.heap.size, 5, none⟩ = some (.int .i64 0) := cell_later hb4 (by simp)
        have v6 : w4.cell? ⟨w2.heap.size, 6, none⟩ = some (.int .i64 0) := cell_later hb4 (by simp)
        have l4 : w4.rowIs w1.heap.size 43 6 (lf X S H U T n) := (l2.alloc _).of_block (hb4.block _ (l2.alloc _).lt)
        have L0 : w4.cell? ⟨w1.heap.size, 0, none⟩ = some (.int .i64 X) := l4.cell (i := 0) (by omega)
        have L1 : w4.cell? ⟨w1.heap.size, 1, none⟩ = some (.int .i64 S) := l4.cell (i := 1) (by omega)
        have L2 : w4.cell? ⟨w1.heap.size, 2, none⟩ = some (.int .i64 n) := l4.cell (i := 2) (by omega)
        have L3 : w4.cell? ⟨w1.heap.size, 3, none⟩ = some (.int .i64 H) := l4.cell (i := 3) (by omega)
        have L4 : w4.cell? ⟨w1.heap.size, 4, none⟩ = some (.int .i64 U) := l4.cell (i := 4) (by omega)
        have L5 : w4.cell? ⟨w1.heap.size, 5, none⟩ = some (.int .i64 T) := l4.cell (i := 5) (by omega)
        have A0 : w4.cell? ⟨A, 0, none⟩ = some (.int .i64 X) := hW4.a.cell (i := 0) (by omega)
        have A1 : w4.cell? ⟨A, 1, none⟩ = some (.int .i64 S) := hW4.a.cell (i := 1) (by omega)
        have A2 : w4.cell? ⟨A, 2, none⟩ = some (.int .i64 n) := hW4.a.cell (i := 2) (by omega)
        have A3 : w4.cell? ⟨A, 3, none⟩ = some (.int .i64 H) := hW4.a.cell (i := 3) (by omega)
        have A4 : w4.cell? ⟨A, 4, none⟩ = some (.int .i64 U) := hW4.a.cell (i := 4) (by omega)
        have A5 : w4.cell? ⟨A, 5, none⟩ = some (.int .i64 T) := hW4.a.cell (i := 5) (by omega)
        have A6 : w4.cell? ⟨A, 6, none⟩ = some (.slice (some ⟨G, 0, none⟩) n n) := hW4.a.cell (i := 6) (by omega)
        have A7 : w4.cell? ⟨A, 7, none⟩ = some (.map (some Mp)) := hW4.a.cell (i := 7) (by omega)
        have hA4 : A < w4.heap.size := hW4.a.lt
        have hL4 : w1.heap.size < w4.heap.size := l4.lt
        have hv4 : w2.heap.size < w4.heap.size := World.block_lt_of_cell? _ _ v0
        have na := neq_act
        have nl := neq_lay
        have hlen : ∀ o q ty, (Builtin.len_ #[45] ty #[.map (some Mp)]).run Ybaf.prog ((w4.alloc o).drewN q) = .ok (.int .i64 0) ((w4.alloc o).drewN q) := fun o q ty => len_map Mp _ ty (hW4.alloc o).m
        have heq : ∀ o q, Calls Ybaf.prog 10 #[.slice (some ⟨G, 0, none⟩) n n, .slice (some ⟨g, 0, none⟩) n cap] ((w4.alloc o).drewN q) fun e w' => e = .returned (.bool true) ∧ ∃ q', w' = ((w4.alloc o).drewN q).drewN q' := fun o q => by
          have hg2 : ∀ j, j < n * 3 → ((w4.alloc o).drewN q).cell? ⟨g, j, none⟩ = some (rowE X S U P0 n j) := fun j hj => by
            have h1 := hgc j _ (newsE_at X S U P0 hj)
            have h2 : (w2.alloc (.cells #[.int .u8 2, .int .i64 (R + 1), .int .i64 0, .int .i64 0, .int .i64 0, .int .i64 0, .int .i64 0] 55)).cell? ⟨g, j, none⟩ = some (rowE X S U P0 n j) := Lib.cell?_alloc_some _ h1
            exact Lib.cell?_alloc_some _ (cell_later hb4 h2)
          have hg1 : ∀ j, j < n * 3 → ((w4.alloc o).drewN q).cell? ⟨G, j, none⟩ = some (rowE X S U P0 n j) := fun j hj => (hW4.alloc o).g.cell hj
          refine equal_any G n g cap n (fun j => if (j : Int) = (n : Int) - 1 then X - P0 else S) (fun j => (j : Int) % U + 1) (fun j => (j : Int) / U + 1) _ hn2 (Nat.le_refl _) hcap (fun j hj => ?_) (fun j hj => ?_)
          · exact ⟨by rw [hg1 _ (by omega), rowE_0' X S U P0 hj], by rw [hg1 _ (by omega), rowE_1], by rw [hg1 _ (by omega), rowE_2]⟩
          · exact ⟨by rw [hg2 _ (by omega), rowE_0' X S U P0 hj], by rw [hg2 _ (by omega), rowE_1], by rw [hg2 _ (by omega), rowE_2]⟩
        have HEQ : Hid (∀ o q, Calls _ _ _ _ _) := heq
        have hbw4 := hW4.below
        clear heq hgc hb4 hW4 hW2 l4 l2
        go_wp2_with fail
        go_quiet ((go_at_call 10; exact Calls.quiet_of (HEQ.out _ _)))
        go_wp2
        go_ret
        exact ⟨rfl, below_drewN (hbw4.alloc hbw4.size _) _⟩
end Go.Proofs.YbulkdkkyFmt.B
