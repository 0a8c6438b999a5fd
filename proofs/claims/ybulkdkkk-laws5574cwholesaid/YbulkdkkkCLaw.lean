/-
  THE WALK of LawS5574CWhole (function 4).
-/
import Derived.Test.YbulkdkkkClone
import Derived.Test.YbulkdkkkReset
import Derived.BigQuiet
import Derived.Deep.QuietTactic
import Derived.LaidEqlPtr
namespace Go.Proofs.Ybulkdkkk.C
open Go.RowKit Go.Deep
set_option linter.unusedVariables false

theorem neq_same (W : World) (a : Addr) : (binOp .neq 31 (.pointer (some a)) (.pointer (some a))).run Yba.prog W = .ok (.bool false) W := by
  obtain ⟨j, hj⟩ : ∃ j, Yba.prog.info? 3 = some j := by
    obtain ⟨i, hi, _⟩ := Option.map_eq_some_iff.1 info3
    exact ⟨i, hi⟩
  have h : ∀ d : Nat, (Op.equalIn (d + 1) 31 (.pointer (some a)) (.pointer (some a))).run Yba.prog W = .ok true W := fun d => by
    simp [Op.equalIn, run_underlying Yba.underlying31, sizeOf, typeInfo, hj, run_sameAddr_same]
  simp only [binOp]
  simp [Op.equal, Op.maxDepth, h 9999]

/-- zzs5574cclone2 at no row: nil exactly where the argument is nil. -/
theorem clone2_zero (ba : Option Addr) (c : Nat) (hba : ba = none → c = 0) (w : World) :
    Calls Yba.prog 8 #[.slice ba 0 c] w fun e w' => ∃ ob, e = .returned (.slice ob 0 0) ∧ ob.isNone = ba.isNone ∧ Below w.heap.size w w' := by
  cases ba with
  | none =>
    obtain rfl := hba rfl
    refine (clone2_nil w).mono ?_
    rintro e w1 ⟨rfl, rfl⟩
    exact ⟨none, rfl, rfl, Below.refl _ _⟩
  | some ga =>
    refine (clone2_any ga 0 c (fun _ => none) (fun _ => 0) (fun _ => 0) (fun _ _ => 0) w (by omega) (fun r hr => absurd hr (Nat.not_lt_zero _)) (fun r hr => absurd hr (Nat.not_lt_zero _)) (fun r hr => absurd hr (Nat.not_lt_zero _)) (fun r hr => absurd hr (Nat.not_lt_zero _))).mono ?_
    rintro e w1 ⟨rfl, T, h⟩
    exact ⟨_, rfl, rfl, h.below⟩

theorem none_iff_nil {α : Type} {a b : Option α} (h : a.isNone = b.isNone) : a = none → b = none := by
  cases a <;> cases b <;> simp_all

set_option maxHeartbeats 1000000 in
/-- No block; spare nil. -/
theorem law_empty_nil (ba : Option Addr) (c : Nat) (hba : ba = none → c = 0) (w : World) :
    Calls Yba.prog 4 #[.slice ba 0 c, .slice none 0 0] w fun e w' => e = .returned (.bool true) ∧ Below w.heap.size w w' := by
  have he4 := fun W => Lib.run_eql_slice_nil (P := Yba.prog) W 24 25 ba 0 c 0 0 Yba.underlying24
  have he5 := fun W => Lib.run_eql_slice_nil (P := Yba.prog) W 25 3 none 0 0 0 0 Yba.underlying25
  go_enter Yba.func4, Yba.ntmps4
  go_wp2_with fail
  refine wp_loop_rounds 1 ?_; rw [rounds_succ]
  go_wp2_with fail
  refine (clone2_zero ba c hba _).mono ?_
  rintro e w1 ⟨ob, rfl, hob, hb1⟩
  have he6 := fun W => Lib.run_eql_slice_nil (P := Yba.prog) W 24 25 ob 0 0 0 0 Yba.underlying24
  go_wp2_with fail
  refine (clone1_nil _).mono ?_
  rintro e w2 ⟨rfl, hw2⟩
  obtain rfl := hw2.symm
  go_wp2_with fail
  have hD : (w1.alloc (Obj.cells #[Value.slice ob 0 0, Value.slice none 0 0] 30)).rowIs w1.heap.size 30 2 (fun i => if i = 0 then .slice ob 0 0 else .slice none 0 0) :=
    World.rowIs_alloc w1 _ 30 _ (fun i hi => by
      match i, hi with
      | 0, _ => rfl
      | 1, _ => rfl)
  refine (reset_none w1.heap.size 0 ob _ _ hD rfl (fun _ => rfl) (by omega)).mono ?_
  clear hD
  rintro e w3 ⟨rfl, hD3, hk3⟩
  have hb3 : Below w.heap.size w w3 := hb1.trans (((Kept.refl _ _).alloc _ |>.trans hk3).below hb1.size (fun k hk => by rw [hk]; exact hb1.size))
  have d0 : w3.cell? ⟨w1.heap.size, 0, none⟩ = some (.slice ob 0 0) := hD3.cell (i := 0) (by omega)
  have d1 : w3.cell? ⟨w1.heap.size, 1, none⟩ = some (.slice none 0 0) := hD3.cell (i := 1) (by omega)
  clear hD3 hk3
  go_wp2_with fail
  refine wp_loop_rounds 1 ?_; rw [rounds_succ]
  go_wp2_with fail
  refine wp_loop_rounds 1 ?_; rw [rounds_succ]
  go_wp2_with fail
  go_quiet (fail)
  go_wp2
  go_ret
  exact ⟨rfl, below_drewN hb3 _⟩
set_option maxHeartbeats 1000000 in
set_option maxRecDepth 100000 in
/-- No block; a spare that is not nil. -/
theorem law_empty_some (ba : Option Addr) (c : Nat) (hba : ba = none → c = 0) (a : Addr) (n sc : Nat) (Z : Nat → Int) (w : World) (hn : 8 * n ≤ 281474976710656)
    (hcell : ∀ j, j < n → w.cell? (a.add j) = some (.int .i64 (Z j))) :
    Calls Yba.prog 4 #[.slice ba 0 c, .slice (some a) n sc] w fun e w' => e = .returned (.bool true) ∧ Below w.heap.size w w' := by
  have he4 := fun W => Lib.run_eql_slice_nil (P := Yba.prog) W 24 25 ba 0 c 0 0 Yba.underlying24
  have he5 := fun W => Lib.run_eql_slice_nil (P := Yba.prog) W 25 3 (some a) n sc 0 0 Yba.underlying25
  by_cases h20 : (1048576 : Int) < (n : Int)
  · go_enter Yba.func4, Yba.ntmps4
    go_wp2_with fail
    refine wp_loop_rounds 1 ?_; rw [rounds_succ]
    go_wp2_with fail
    go_ret
    exact ⟨rfl, Below.refl _ _⟩
  go_enter Yba.func4, Yba.ntmps4
  go_wp2_with fail
  refine wp_loop_rounds 1 ?_; rw [rounds_succ]
  go_wp2_with fail
  refine (clone2_zero ba c hba _).mono ?_
  rintro e w1 ⟨ob, rfl, hob, hb1⟩
  have he6 := fun W => Lib.run_eql_slice_nil (P := Yba.prog) W 24 25 ob 0 0 0 0 Yba.underlying24
  have hcell1 : ∀ j, j < n → w1.cell? (a.add j) = some (.int .i64 (Z j)) := fun j hj => by
    rw [hb1.cell (World.block_lt_of_cell? _ _ (hcell j hj))]; exact hcell j hj
  go_wp2_with fail
  refine (clone1_any a n sc Z w1 hn hcell1).mono ?_
  rintro e w2 ⟨rfl, hr2, hs2, hb2⟩
  have he7 := fun W => Lib.run_eql_slice_nil (P := Yba.prog) W 25 3 (some ⟨w1.heap.size, 0, none⟩) n n 0 0 Yba.underlying25
  have hb12 : Below w.heap.size w w2 := hb1.trans (hb2.mono hb1.size)
  have HS2 : Hid (w2.heap.size = w1.heap.size + 1) := hs2
  clear hs2 hcell1 hb2 
  go_wp2_with fail
  have hD : (w2.alloc (Obj.cells #[Value.slice ob 0 0, Value.slice (some ⟨w1.heap.size, 0, none⟩) n n] 30)).rowIs w2.heap.size 30 2 (fun i => if i = 0 then .slice ob 0 0 else .slice (some ⟨w1.heap.size, 0, none⟩) n n) :=
    World.rowIs_alloc w2 _ 30 _ (fun i hi => by
      match i, hi with
      | 0, _ => rfl
      | 1, _ => rfl)
  refine (reset_none w2.heap.size 0 ob _ _ hD rfl (fun _ => rfl) (by omega)).mono ?_
  clear hD
  rintro e w3 ⟨rfl, hD3, hk3⟩
  have hb3 : Below w.heap.size w w3 := hb12.trans (((Kept.refl _ _).alloc _ |>.trans hk3).below hb12.size (fun k hk => by rw [hk]; exact hb12.size))
  have d0 : w3.cell? ⟨w2.heap.size, 0, none⟩ = some (.slice ob 0 0) := hD3.cell (i := 0) (by omega)
  have d1 : w3.cell? ⟨w2.heap.size, 1, none⟩ = some (.slice (some ⟨w1.heap.size, 0, none⟩) n n) := hD3.cell (i := 1) (by omega)
  have hr3 : w3.rowIs w1.heap.size 3 n (fun j => .int .i64 (Z j)) := hk3.rowIs (hr2.alloc _) (by have := HS2.out; omega)
  clear hD3 hk3 hr2
  go_wp2_with fail
  refine wp_loop_rounds 1 ?_; rw [rounds_succ]
  go_wp2_with fail
  go_loopg [15] n (fun g i wr => ∃ k q : Nat, k ≤ n ∧ g = n - k ∧ i = .int .i64 k ∧ wr = w3.drewN q)
  case atStart => exact ⟨0, 0, Nat.zero_le _, rfl, rfl, rfl⟩
  case round =>
    obtain ⟨k, q, hk, rfl, rfl, rfl⟩ := hrel
    by_cases hlt : k < n
    · have hltz : (k : Int) < (n : Int) := by omega
      have r1 : w3.cell? ⟨w1.heap.size, k, none⟩ = some (.int .i64 (Z k)) := hr3.cell hlt
      have r2 : w3.cell? (a.add k) = some (.int .i64 (Z k)) := by
        rw [hb3.cell (World.block_lt_of_cell? _ _ (hcell k hlt))]; exact hcell k hlt
      clear hcell
      go_wp2_with fail
      go_quiet (fail)
      go_wp2
      go_roundg (n - (k + 1))
      case measure => go_light; omega
      case rel => go_light; exact ⟨k + 1, q + nq, by omega, rfl, by simp, rfl⟩
    · obtain rfl : k = n := by omega
      have hp := neq_same
      go_wp2_with fail
      by_cases h0 : (0 : Int) < (k : Int)
      · have h0' : 0 < k := by omega
        go_quiet (fail)
        go_wp2
        go_ret
        exact ⟨rfl, below_drewN (below_drewN hb3 _) _⟩
      · obtain rfl : k = 0 := by omega
        clear h0
        go_quiet (fail)
        go_wp2
        go_ret
        exact ⟨rfl, below_drewN (below_drewN hb3 _) _⟩
theorem rowIs_box (w : World) (u v : Value) : (w.alloc (Obj.cells #[u, v] 30)).rowIs w.heap.size 30 2 (fun i => if i = 0 then u else v) :=
  World.rowIs_alloc w _ 30 _ (fun i hi => by
    match i, hi with
    | 0, _ => rfl
    | 1, _ => rfl)

theorem owns_of_row {w : World} {g L B : Nat} {f : Nat → Value} (h : w.rowIs g 3 L f) (hB : B ≤ g) (hL : L ≤ maxLen) : w.ownsRow B 3 1 (.slice (some ⟨g, 0, none⟩) 0 L) 0 [] := by
  obtain ⟨c, hb, hs, _⟩ := h
  exact ⟨by simp, Or.inr ⟨g, L, c, rfl, hB, hb, Nat.zero_le _, hL, by omega, by simp⟩⟩

set_option maxHeartbeats 2000000 in
set_option maxRecDepth 100000 in
/-- At least one block. -/
theorem law_blocks (ga : Addr) (n c : Nat) (A : Nat → Option Addr) (L C : Nat → Nat) (Z : Nat → Nat → Int) (sa : Option Addr) (sn sc : Nat) (ZS : Nat → Int) (w : World) (hn0 : 0 < n) (hn : 24 * n ≤ 281474976710656) (hL : ∀ r, r < n → 8 * L r ≤ 281474976710656)
    (hrow : ∀ r, r < n → w.cell? (ga.add r) = some (.slice (A r) (L r) (C r))) (hnil : ∀ r, r < n → A r = none → L r = 0 ∧ C r = 0)
    (hcell : ∀ r, r < n → ∀ a', A r = some a' → ∀ j, j < L r → w.cell? (a'.add j) = some (.int .i64 (Z r j)))
    (hsn : 8 * sn ≤ 281474976710656) (hsnil : sa = none → sn = 0 ∧ sc = 0) (hscell : ∀ a, sa = some a → ∀ j, j < sn → w.cell? (a.add j) = some (.int .i64 (ZS j))) :
    Calls Yba.prog 4 #[.slice (some ga) n c, .slice sa sn sc] w fun e w' => e = .returned (.bool true) ∧ Below w.heap.size w w' := by
  have he4 := fun W => Lib.run_eql_slice_nil (P := Yba.prog) W 24 25 (some ga) n c 0 0 Yba.underlying24
  have cl2 := clone2_any ga n c A L C Z w hn hL hrow hnil hcell
  have CL2 : Hid (Calls Yba.prog 8 #[.slice (some ga) n c] w fun e w' => e = .returned (.slice (some ⟨w.heap.size, 0, none⟩) n n) ∧ ∃ T, Half w w' n n L T) := cl2
  clear cl2 hnil hcell
  go_enter Yba.func4, Yba.ntmps4
  go_wp2_with fail
  go_loopg [5, 6] n (fun g s i wr => ∃ (k : Nat) (t : Int), k ≤ n ∧ g = n - k ∧ i = .int .i64 k ∧ s = .int .i64 t ∧ w = wr)
  case atStart => exact ⟨0, _, Nat.zero_le _, rfl, rfl, rfl, rfl⟩
  case round =>
    obtain ⟨k, t, hk, rfl, rfl, rfl, rfl⟩ := hrel
    by_cases hlt : k < n
    · have hltz : (k : Int) < (n : Int) := by omega
      have r1 := hrow k hlt
      clear hrow hscell CL2 hL
      go_wp2
      go_roundg (n - (k + 1))
      case measure => go_light; omega
      case rel => go_light; exact ⟨k + 1, _, by omega, rfl, by simp, rfl, rfl⟩
    · obtain rfl : k = n := by omega
      clear hlt hk hrow
      by_cases h20 : (1048576 : Int) < t
      · clear hscell CL2 hL
        go_wp2_with fail
        go_ret
        exact ⟨rfl, Below.refl _ _⟩
      go_wp2_with fail
      refine CL2.out.mono ?_
      clear CL2
      rintro e w1 ⟨rfl, T, hH⟩
      have hscell1 : ∀ a, sa = some a → ∀ j, j < sn → w1.cell? (a.add j) = some (.int .i64 (ZS j)) := fun a ha j hj => by
        rw [hH.below.cell (World.block_lt_of_cell? _ _ (hscell a ha j hj))]; exact hscell a ha j hj
      have cl1 := clone1_cp sa sn sc ZS w1 hsn hsnil hscell1
      have CL1 : Hid (Calls Yba.prog 9 #[.slice sa sn sc] w1 fun e w' => ∃ ao, e = .returned (.slice ao sn sn) ∧ Cp w' w1.heap.size sn (.slice ao sn sn) ∧ Below w1.heap.size w1 w') := cl1
      clear hscell hscell1 cl1
      have hL0 := hL 0 hn0
      clear hL
      go_wp2_with fail
      refine CL1.out.mono ?_
      clear CL1
      rintro e w2 ⟨ao, rfl, hcp2, hb2⟩
      have hb12 : Below w.heap.size w w2 := hH.below.trans (hb2.mono (Nat.le_of_lt hH.size))
      have htop2 : w2.rowIs w.heap.size 25 k T := hH.top.of_block (hb2.block _ hH.size)
      have hT0 := (hH.done 0 hn0).later hb2
      have hsz : w.heap.size < w2.heap.size := Nat.lt_of_lt_of_le hH.size hb2.size
      clear hcp2 hb2 hH
      obtain ⟨A0, L0, C0, hTv, hA0, hLC, hrw⟩ : ∃ A0 L0 C0, T 0 = .slice A0 L0 C0 ∧ (A0 = none → L0 = 0 ∧ C0 = 0) ∧ L0 = C0 ∧ (0 < L0 → ∃ g f, A0 = some ⟨g, 0, none⟩ ∧ w.heap.size + 1 ≤ g ∧ w2.rowIs g 3 L0 f ∧ L0 ≤ maxLen) := by
        rcases hT0 with h | ⟨g, f, h1, h2, h3⟩
        · exact ⟨none, 0, 0, h, fun _ => ⟨rfl, rfl⟩, rfl, fun h => by omega⟩
        · exact ⟨some ⟨g, 0, none⟩, L 0, L 0, h2, (fun h => by cases h), rfl, fun _ => ⟨g, f, rfl, h1, h3, by unfold maxLen; omega⟩⟩
      subst hLC
      have he5 := fun W => Lib.run_eql_slice_nil (P := Yba.prog) W 25 3 A0 L0 L0 0 0 Yba.underlying25
      have he6 := fun W => Lib.run_eql_slice_nil (P := Yba.prog) W 25 3 A0 0 L0 0 0 Yba.underlying25
      have he7 := fun W => run_neq_slice_nil_any (P := Yba.prog) W 25 3 none 0 0 0 0 Yba.underlying25
      have he8 := fun W => Lib.run_eql_slice_nil (P := Yba.prog) W 24 25 (some ⟨w.heap.size, 0, none⟩) 0 k 0 0 Yba.underlying24
      have r0 : w2.cell? ⟨w.heap.size, 0, none⟩ = some (.slice A0 L0 L0) := by rw [← hTv]; exact htop2.cell hn0
      clear hT0 hL0
      go_wp2_with fail
      have hD := rowIs_box w2 (.slice (some ⟨w.heap.size, 0, none⟩) k k) (.slice ao sn sn)
      have hres := reset_some w2.heap.size w.heap.size k k k _ T A0 L0 L0 _ hD rfl (htop2.alloc _) hn0 (Nat.le_refl _) (Nat.le_refl _) hTv hA0 (by omega) (by omega)
      refine hres.mono ?_
      clear hres hD
      rintro e w3 ⟨rfl, hD3, hg3, hk3⟩
      have hb3 : Below w.heap.size w w3 := hb12.trans (((Kept.refl _ _).alloc _ |>.trans hk3).below hb12.size (fun j hj => by rcases hj with rfl | rfl <;> omega))
      have d0 : w3.cell? ⟨w2.heap.size, 0, none⟩ = some (.slice (some ⟨w.heap.size, 0, none⟩) 0 k) := hD3.cell (i := 0) (by omega)
      have d1 : w3.cell? ⟨w2.heap.size, 1, none⟩ = some (.slice A0 0 L0) := hD3.cell (i := 1) (by omega)
      have hrw3 : 0 < L0 → ∃ g f, A0 = some ⟨g, 0, none⟩ ∧ w.heap.size + 1 ≤ g ∧ w3.rowIs g 3 L0 f ∧ L0 ≤ maxLen := fun h => by
        obtain ⟨g, f, h1, h2, h3, h4⟩ := hrw h
        exact ⟨g, f, h1, h2, hk3.rowIs (h3.alloc _) (by have := h3.lt; omega), h4⟩
      have hg4 : ∀ i, i < k → w3.cell? ⟨w.heap.size, i, none⟩ = some (.slice none 0 0) := fun i hi => by
        rw [hg3.cell hi]; simp [hi]
      clear hD3 hg3 hk3 hrw hb12 htop2 r0 hTv
      go_wp2_with fail
      go_loopg [13] k (fun g i wr => ∃ j : Nat, j ≤ k ∧ g = k - j ∧ i = .int .i64 j ∧ w3 = wr)
      case atStart => exact ⟨0, Nat.zero_le _, rfl, rfl, rfl⟩
      case round =>
        obtain ⟨j, hj, rfl, rfl, rfl⟩ := hrel
        by_cases hlt : j < k
        · have hltz : (j : Int) < (k : Int) := by omega
          have r1 := hg4 j hlt
          clear hg4
          go_wp2
          go_roundg (k - (j + 1))
          case measure => go_light; omega
          case rel => go_light; exact ⟨j + 1, by omega, rfl, by simp, rfl⟩
        · obtain rfl : j = k := by omega
          clear hlt hj hg4
          by_cases h0 : (0 : Int) < (L0 : Int)
          · obtain ⟨g, f, rfl, hg1, hr3, hmx⟩ := hrw3 (by omega)
            have q1 : w3.cell? ⟨g, 0, none⟩ = some (f 0) := hr3.cell (by omega)
            have q2 : w3.frozen? ⟨g, 0, none⟩ = false := hr3.frozen 0
            have q3 : g < w3.heap.size := hr3.lt
            have q4 := neq_same
            have hL1 : 1 ≤ L0 := by omega
            have hbE : Below w.heap.size w ((w3.setCell ⟨g, 0, none⟩ (.int .i64 1)).alloc (.cells #[.int .i64 1] 3)) :=
              (hb3.setCell (by show _ ≤ g; omega) _).alloc (by simpa using hb3.size) _
            clear hrw3 hr3 hA0
            go_wp2_with fail
            go_quiet (fail)
            go_wp2
            go_ret
            exact ⟨rfl, below_drewN hbE _⟩
          · obtain rfl : L0 = 0 := by omega
            clear hrw3 h0
            go_wp2_with fail
            go_ret
            exact ⟨rfl, hb3⟩
end Go.Proofs.Ybulkdkkk.C
