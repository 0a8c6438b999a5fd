/-
  THE WALK of LawS5574CReuse (function 5).
-/
import Derived.Test.YbulkdkkkPush
import Derived.Test.YbulkdkkkPop
import Derived.Deep.LoopGhost
import Derived.Deep.Light
import Derived.BigQuiet
import Derived.Deep.QuietTactic
namespace Go.Proofs.Ybulkdkkk.C
open Go.RowKit Go.Deep
set_option linter.unusedVariables false

theorem own_start (w : World) : Own (w.alloc (.cells #[.slice none 0 0, .slice none 0 0] 30)) w.heap.size (w.heap.size + 1) (.slice none 0 0) (.slice none 0 0) [] 0 :=
  ⟨Nat.lt_succ_self _, by simp, World.rowIs_alloc w _ 30 _ (fun i hi => by
    match i, hi with
    | 0, _ => rfl
    | 1, _ => rfl), World.ownsRow_nil _ _ _ _, fun x hx => by simp at hx, Or.inl rfl, fun h => absurd rfl h⟩

set_option maxHeartbeats 2000000 in
set_option maxRecDepth 100000 in
theorem reuse_walk (a0 : Option Addr) (len0 cap0 : Nat) (a1 : Option Addr) (len1 cap1 : Nat) (Z0 Z1 : Nat → Int) (w : World) (hl0 : len0 ≤ 9223372036854775807) (hl1 : len1 ≤ 9223372036854775807)
    (h0 : ∀ k, k < len0 → ∃ a, a0 = some a ∧ w.cell? (a.add k) = some (.int .u8 (Z0 k)) ∧ 0 ≤ Z0 k ∧ Z0 k ≤ 255)
    (h1 : ∀ k, k < len1 → ∃ a, a1 = some a ∧ w.cell? (a.add k) = some (.int .i64 (Z1 k))) :
    Calls Yba.prog 5 #[.slice a0 len0 cap0, .slice a1 len1 cap1] w fun e w' => e = .returned (.bool true) ∧ Below w.heap.size w w' := by
  by_cases hbig : (4096 : Int) < (len0 : Int)
  · clear h0 h1
    go_enter Yba.func5, Yba.ntmps5
    go_wp2_with fail
    go_ret
    exact ⟨rfl, Below.refl _ _⟩
  have hbel0 : Below w.heap.size w (w.alloc (.cells #[.slice none 0 0, .slice none 0 0] 30)) := (Below.refl _ _).alloc (Nat.le_refl _) _
  go_enter Yba.func5, Yba.ntmps5
  go_wp2_with fail
  go_loopg [6, 7] len0 (fun g n i wr => ∃ (k : Nat) (v sv : Value) (bs : List Nat) (l : Nat), k ≤ len0 ∧ g = len0 - k ∧ i = .int .i64 k ∧ n = .int .i64 (cnt bs l : Nat) ∧ cnt bs l ≤ k ∧ (bs ≠ [] → 1 ≤ l) ∧ Own wr w.heap.size (w.heap.size + 1) v sv bs l ∧ Below w.heap.size w wr)
  case atStart => exact ⟨0, _, _, _, _, Nat.zero_le _, rfl, rfl, rfl, Nat.le_refl _, (fun h => absurd rfl h), own_start w, hbel0⟩
  case round =>
    obtain ⟨k, v, sv, bs, l, hk, rfl, rfl, rfl, hcnt, hl, hO, hbel⟩ := hrel
    clear hbel0
    obtain ⟨N, hN⟩ : ∃ N, N = cnt bs l := ⟨_, rfl⟩
    rw [← hN] at hcnt ⊢
    have HN : Hid (N = cnt bs l) := hN
    clear hN
    by_cases hlt : k < len0
    · have hltz : (k : Int) < (len0 : Int) := by omega
      obtain ⟨a, rfl, hca, hz0, hz1⟩ := h0 k hlt
      have hcz : wr.cell? (a.add k) = some (.int .u8 (Z0 k)) := by rw [hbel.cell (World.block_lt_of_cell? _ _ hca)]; exact hca
      clear h0 hca
      obtain ⟨z, hz⟩ : ∃ z, z = Z0 k := ⟨_, rfl⟩
      rw [← hz] at hcz hz0 hz1
      clear hz
      have hlen : bs.length ≤ 100000 := by
        have h := HN.out
        unfold cnt at h
        omega
      have hsz := hbel.size
      by_cases h2 : z % 3 = 2
      · have h2' : (z % 3 != 2) = false := by simp [h2]
        clear h2
        by_cases hN0 : (0 : Int) < (N : Int)
        · obtain ⟨fs, b, rfl⟩ : ∃ fs b, bs = fs ++ [b] := by
            rcases List.eq_nil_or_concat bs with rfl | ⟨fs, b, rfl⟩
            · have := HN.out; rw [cnt_nil] at this; omega
            · exact ⟨fs, b, List.concat_eq_append⟩
          have hpop := pop_spec w.heap.size (w.heap.size + 1) l v sv fs b wr hO (hl (by simp))
          have HPOP : Hid (Calls _ _ _ _ _) := hpop
          clear hpop
          go_wp2_with fail
          refine HPOP.out.mono ?_
          clear HPOP
          rintro e w1 ⟨⟨u, rfl⟩, v', sv', bs', l', hO', hk', hl', hc'⟩
          have hbel' : Below w.heap.size w w1 := hbel.trans (hk'.below hsz (fun j hj => by omega))
          have HC : Hid (cnt bs' l' + 1 = N) := by rw [HN.out]; exact hc'
          clear hc' hk' hO hl hlen
          go_wp2
          go_roundg (len0 - (k + 1))
          case measure => go_light; omega
          case rel =>
            go_light
            have hc := HC.out
            exact ⟨k + 1, v', sv', bs', l', by omega, rfl, by simp, by rw [← hc]; go_num, by omega, hl', hO', hbel'⟩
        · go_wp2_with fail
          go_roundg (len0 - (k + 1))
          case measure => go_light; omega
          case rel =>
            go_light
            exact ⟨k + 1, v, sv, bs, l, by omega, rfl, by simp, by rw [← HN.out], by have := HN.out; omega, hl, hO, hbel⟩
      · have h2' : (z % 3 != 2) = true := by simp [h2]
        clear h2
        have push : ∀ x : Int, Calls Yba.prog 11 #[.pointer (some ⟨w.heap.size, 0, none⟩), .int .i64 x] wr fun e w' => e = .returned (.tuple #[]) ∧
            ∃ v' sv' bs' l', Own w' w.heap.size (w.heap.size + 1) v' sv' bs' l' ∧ Below w.heap.size w w' ∧ (bs' ≠ [] → 1 ≤ l') ∧ cnt bs' l' = N + 1 := fun x => by
          refine (push_spec w.heap.size (w.heap.size + 1) l v sv bs x wr hO hl hlen).mono ?_
          rintro e w1 ⟨rfl, v', sv', bs', l', hO', hk', hl', hc'⟩
          exact ⟨rfl, v', sv', bs', l', hO', hbel.trans (hk'.below hsz (fun j hj => by omega)), hl', by rw [hc', HN.out]⟩
        have PUSH : Hid (∀ x : Int, Calls _ _ _ _ _) := push
        clear push hO hl hlen
        by_cases hv : (0 : Int) < (len1 : Int)
        · have hix : k % len1 < len1 := Nat.mod_lt _ (by omega)
          obtain ⟨a', rfl, hca'⟩ := h1 (k % len1) hix
          have hcv : wr.cell? (a'.add (k % len1)) = some (.int .i64 (Z1 (k % len1))) := by rw [hbel.cell (World.block_lt_of_cell? _ _ hca')]; exact hca'
          clear h1 hca'
          go_wp2_with fail
          refine (PUSH.out _).mono ?_
          clear PUSH
          rintro e w1 ⟨rfl, v', sv', bs', l', hO', hbel', hl', hc'⟩
          have HC : Hid (cnt bs' l' = N + 1) := hc'
          clear hc' hcv
          go_wp2
          go_roundg (len0 - (k + 1))
          case measure => go_light; omega
          case rel =>
            go_light
            have hc := HC.out
            exact ⟨k + 1, v', sv', bs', l', by omega, rfl, by simp, by rw [hc]; go_num, by omega, hl', hO', hbel'⟩
        · clear h1
          go_wp2_with fail
          refine (PUSH.out _).mono ?_
          clear PUSH
          rintro e w1 ⟨rfl, v', sv', bs', l', hO', hbel', hl', hc'⟩
          have HC : Hid (cnt bs' l' = N + 1) := hc'
          clear hc'
          go_wp2
          go_roundg (len0 - (k + 1))
          case measure => go_light; omega
          case rel =>
            go_light
            have hc := HC.out
            exact ⟨k + 1, v', sv', bs', l', by omega, rfl, by simp, by rw [hc]; go_num, by omega, hl', hO', hbel'⟩
    · obtain rfl : k = len0 := by omega
      clear h0 h1 hlt hk
      have hsz := hbel.size
      cases bs with
      | nil =>
        obtain rfl : N = 0 := by rw [HN.out]; rfl
        clear HN hl hcnt
        have hres := reset_own_none w.heap.size (w.heap.size + 1) l v sv wr hO
        have HRES : Hid (Calls _ _ _ _ _) := hres
        clear hres hO
        go_wp2_with fail
        refine HRES.out.mono ?_
        clear HRES
        rintro e w1 ⟨rfl, hO1, hk1⟩
        have hbel1 : Below w.heap.size w w1 := hbel.trans (hk1.below hsz (fun j hj => by omega))
        clear hbel hk1
        obtain ⟨ao, cap, rfl⟩ : ∃ ao cap, v = .slice ao 0 cap := by
          rcases hO1.own.2 with ⟨rfl, _⟩ | ⟨g, cap, cur, rfl, _⟩
          · exact ⟨_, _, rfl⟩
          · exact ⟨_, _, rfl⟩
        have d0 : w1.cell? ⟨w.heap.size, 0, none⟩ = some (.slice ao 0 cap) := hO1.box.cell (i := 0) (by omega)
        have hpush := push_first w.heap.size (w.heap.size + 1) l _ sv 42 w1 hO1
        have HPUSH : Hid (Calls _ _ _ _ _) := hpush
        clear hpush hO1
        go_wp2_with fail
        refine (empty_any w.heap.size 0 cap ao w1 d0).mono ?_
        rintro e w2 ⟨rfl, rfl⟩
        go_wp2_with fail
        refine (len_none w.heap.size cap ao w1 d0).mono ?_
        rintro e w2 ⟨rfl, rfl⟩
        go_wp2_with fail
        refine HPUSH.out.mono ?_
        clear HPUSH d0
        rintro e w2 ⟨rfl, bn, v', hO2, hk2, hc42, _⟩
        have hbel2 : Below w.heap.size w w2 := hbel1.trans (hk2.below hbel1.size (fun j hj => by omega))
        clear hk2 hbel1
        obtain ⟨g, cap', cur, rfl, hB, hg, hc1, hc2, hcs, hgb, hglt, c0, f0⟩ := Own.shape' (fs := []) 0 rfl hO2
        have d0 : w2.cell? ⟨w.heap.size, 0, none⟩ = some (.slice (some ⟨g, 0, none⟩) (0 + 1) cap') := hO2.box.cell (i := 0) (by omega)
        clear hO2 hg f0 hcs
        go_wp2_with fail
        refine (len_one w.heap.size g cap' _ w2 d0 c0 (by omega)).mono ?_
        rintro e w3 ⟨rfl, rfl⟩
        go_wp2_with fail
        refine (at_zero w.heap.size g bn cap' w2 d0 c0 (by omega)).mono ?_
        rintro e w3 ⟨rfl, rfl⟩
        go_wp2_with fail
        go_ret
        exact ⟨rfl, hbel2⟩
      | cons b0 r =>
        have hl := hl (by simp)
        have hNp : (0 : Int) < (N : Int) := by
          have := HN.out
          unfold cnt at this
          simp at this
          omega
        obtain ⟨g0, cap0', T, L0, hv, hB0, hr0, hn0, hcp0, hT, hgb0, hL0⟩ := hO.shape1
        subst hv
        have d0 : wr.cell? ⟨w.heap.size, 0, none⟩ = some (.slice (some ⟨g0, 0, none⟩) (r.length + 1) cap0') := hO.box.cell (i := 0) (by omega)
        have c00 : wr.cell? ⟨g0, 0, none⟩ = some (Hd b0 L0) := by rw [← hT]; exact hr0.cell (by omega)
        have hL0 := hL0 hl
        have hres := reset_own_some w.heap.size (w.heap.size + 1) l _ sv b0 r wr hO
        have HRES : Hid (Calls _ _ _ _ _) := hres
        clear hres hO hr0 hT HN
        go_wp2_with fail
        refine HRES.out.mono ?_
        clear HRES d0 c00
        rintro e w1 ⟨rfl, g, cap, hO1, hk1⟩
        have hbel1 : Below w.heap.size w w1 := hbel.trans (hk1.below hsz (fun j hj => by omega))
        clear hbel hk1
        have d0 : w1.cell? ⟨w.heap.size, 0, none⟩ = some (.slice (some ⟨g, 0, none⟩) 0 cap) := hO1.box.cell (i := 0) (by omega)
        have hpush := push_first w.heap.size (w.heap.size + 1) 0 _ _ 42 w1 hO1
        have HPUSH : Hid (Calls _ _ _ _ _) := hpush
        clear hpush hO1
        go_wp2_with fail
        refine (empty_any w.heap.size 0 cap _ w1 d0).mono ?_
        rintro e w2 ⟨rfl, rfl⟩
        go_wp2_with fail
        refine (len_none w.heap.size cap _ w1 d0).mono ?_
        rintro e w2 ⟨rfl, rfl⟩
        go_wp2_with fail
        refine HPUSH.out.mono ?_
        clear HPUSH d0
        rintro e w2 ⟨rfl, bn, v', hO2, hk2, hc42, hbn⟩
        obtain rfl := hbn b0 rfl
        clear hbn
        have hbel2 : Below w.heap.size w w2 := hbel1.trans (hk2.below hbel1.size (fun j hj => by omega))
        clear hk2 hbel1
        obtain ⟨g2, cap', cur, rfl, hB, hg, hc1, hc2, hcs, hgb, hglt, c0, f0⟩ := Own.shape' (fs := []) 0 rfl hO2
        have d0 : w2.cell? ⟨w.heap.size, 0, none⟩ = some (.slice (some ⟨g2, 0, none⟩) (0 + 1) cap') := hO2.box.cell (i := 0) (by omega)
        clear hO2 hg f0 hcs
        have hp := neq_same'
        go_wp2_with fail
        refine (len_one w.heap.size g2 cap' _ w2 d0 c0 (by omega)).mono ?_
        rintro e w3 ⟨rfl, rfl⟩
        go_wp2_with fail
        refine (at_zero w.heap.size g2 bn cap' w2 d0 c0 (by omega)).mono ?_
        rintro e w3 ⟨rfl, rfl⟩
        go_wp2_with fail
        go_ret
        exact ⟨rfl, hbel2⟩
end Go.Proofs.Ybulkdkkk.C
