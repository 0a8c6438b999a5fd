/-
  The contracts of zzs5574cclone1 (function 9) and zzs5574cclone2 (function 8): a copy of a []int, a copy of a [][]int, in memory of the call's own.
-/
import Derived.Test.YbulkdkkkRows
import Derived.WalkKit
import Derived.WalkSpells
import Derived.WalkLawsBesides
import Derived.Laws.CopyOwn
import Derived.Deep.OwnRows
import Derived.Deep.LoopGhost
import Derived.Deep.Light
import Derived.Lib.SliceRun
namespace Go.Proofs.Ybulkdkkk.C
open Go.RowKit Go.Deep

theorem info3 : (Yba.prog.info? 3).map (fun i => (i.zero, i.size, i.bytes)) = some (some (.int .i64 0), 1, 8) := by kernel_rfl
theorem info25 : (Yba.prog.info? 25).map (fun i => (i.zero, i.size, i.bytes)) = some (some (.slice none 0 0), 1, 24) := by kernel_rfl
theorem size3 : (Yba.prog.info? 3).map (·.size) = some 1 := by kernel_rfl

theorem clone1_nil (w : World) :
    Calls Yba.prog 9 #[.slice none 0 0] w fun e w' => e = .returned (.slice none 0 0) ∧ w' = w := by
  have he := Lib.run_eql_slice_nil (P := Yba.prog) w 25 3 none 0 0 0 0 Yba.underlying25
  go_enter Yba.func9, Yba.ntmps9
  go_wp2
  go_ret
  exact ⟨rfl, rfl⟩

theorem add_at (a : Addr) (j : Nat) (w : World) (n : Nat) (Z : Nat → Int) (o : Obj) (hcell : ∀ j, j < n → w.cell? (a.add j) = some (.int .i64 (Z j))) (hj : j < n) :
    (w.alloc o).cell? (a.add j) = some (.int .i64 (Z j)) :=
  Lib.cell?_alloc_some o (hcell j hj)

/-- What 'copy(c, s)' does behind 'c := make([]int, len(s))': an equation for the walk, the world behind it under a name. -/
theorem copy_run (a : Addr) (n c : Nat) (Z : Nat → Int) (w : World)
    (hcell : ∀ j, j < n → w.cell? (a.add j) = some (.int .i64 (Z j))) :
    ∃ w1, (∀ ty, (Builtin.copy_ #[25, 25] ty #[.slice (some ⟨w.heap.size, 0, none⟩) n n, .slice (some a) n c]).run Yba.prog (w.alloc (.cells (madeCells #[.int .i64 0] n) 3)) = .ok (goInt n) w1) ∧
      w1.rowIs w.heap.size 3 n (fun j => .int .i64 (Z j)) ∧ w1.heap.size = w.heap.size + 1 ∧ Below w.heap.size w w1 := by
  have hg : (w.alloc (.cells (madeCells #[.int .i64 0] n) 3)).heap[w.heap.size]? = some (.cells (madeCells #[.int .i64 0] n) 3 (0, 0)) := heap_alloc_new w _
  have hl : ((List.range n).map fun j => Value.int .i64 (Z j)).length = n := by simp
  have h := fun ty => run_copy_row (P := Yba.prog) (w.alloc (.cells (madeCells #[.int .i64 0] n) 3)) 25 25 ty 3 w.heap.size 0 n n a n c (madeCells #[.int .i64 0] n) 3 ((List.range n).map fun j => .int .i64 (Z j))
      Yba.underlying25 size3 hg (by rw [hl]; exact (Nat.min_self n).symm) (fun j v hv => by
        have hj : j < n := by simpa using (List.getElem?_eq_some_iff.1 hv).1
        rw [add_at a j w n Z _ hcell hj]
        simp [hj] at hv
        rw [hv]) (by rw [hl, size_madeCells]; omega) (fun v hv => by
        obtain ⟨j, _, rfl⟩ := List.mem_map.1 hv
        rfl)
  simp only [hl] at h
  refine ⟨_, h, ?_, ?_, ?_⟩
  · refine ⟨_, setRow_heap _ _ _ _ _ _ hg, by simp [size_madeCells], fun i hi => ?_⟩
    simp only [List.take_zero, List.nil_append, List.getElem?_toArray]
    rw [List.getElem?_append_left (by simpa using hi)]
    simp [hi]
  · simp [World.setRow]
  · exact below_setRow ((Below.refl _ _).alloc (Nat.le_refl _) _) (Nat.le_refl _) _

set_option maxHeartbeats 400000 in
theorem clone1_any (a : Addr) (n c : Nat) (Z : Nat → Int) (w : World) (hb : 8 * n ≤ 281474976710656)
    (hcell : ∀ j, j < n → w.cell? (a.add j) = some (.int .i64 (Z j))) :
    Calls Yba.prog 9 #[.slice (some a) n c] w fun e w' => e = .returned (.slice (some ⟨w.heap.size, 0, none⟩) n n) ∧
      w'.rowIs w.heap.size 3 n (fun j => .int .i64 (Z j)) ∧ w'.heap.size = w.heap.size + 1 ∧ Below w.heap.size w w' := by
  have he := Lib.run_eql_slice_nil (P := Yba.prog) w 25 3 (some a) n c 0 0 Yba.underlying25
  have hmk := run_make_row' (P := Yba.prog) 25 3 (.int .i64 0) 8 Yba.underlying25 info3 rfl .i64 .i64 n hb (by omega)
  obtain ⟨w1, hcp, h1, h2, h3⟩ := copy_run a n c Z w hcell
  have H2 : Hid (w1.heap.size = w.heap.size + 1) := h2
  clear hcell h2
  go_enter Yba.func9, Yba.ntmps9
  go_wp2
  go_ret
  exact ⟨rfl, h1, H2.out, h3⟩
/-- A row's copy: nil, or a row of the call's own from block B on. -/
def Cp (w : World) (B L : Nat) (v : Value) : Prop := v = .slice none 0 0 ∨ ∃ g f, B ≤ g ∧ v = .slice (some ⟨g, 0, none⟩) L L ∧ w.rowIs g 3 L f

theorem Cp.later {w w' : World} {B L : Nat} {v : Value} (h : Cp w B L v) (hb : Below w.heap.size w w') : Cp w' B L v := by
  rcases h with h | ⟨g, f, h1, h2, h3⟩
  · exact Or.inl h
  · exact Or.inr ⟨g, f, h1, h2, h3.of_block (hb.block g h3.lt)⟩

theorem Cp.setOther {w : World} {B L : Nat} {v : Value} (h : Cp w B L v) {a : Addr} (ha : a.block < B) (u : Value) : Cp (w.setCell a u) B L v := by
  rcases h with h | ⟨g, f, h1, h2, h3⟩
  · exact Or.inl h
  · exact Or.inr ⟨g, f, h1, h2, h3.setOther (by omega) u⟩

theorem Cp.mono {w : World} {B B' L : Nat} {v : Value} (h : Cp w B L v) (hB : B' ≤ B) : Cp w B' L v := by
  rcases h with h | ⟨g, f, h1, h2, h3⟩
  · exact Or.inl h
  · exact Or.inr ⟨g, f, Nat.le_trans hB h1, h2, h3⟩

/-- Both ways in one. -/
theorem clone1_cp (A : Option Addr) (n c : Nat) (Z : Nat → Int) (w : World) (hb : 8 * n ≤ 281474976710656) (hnil : A = none → n = 0 ∧ c = 0)
    (hcell : ∀ a, A = some a → ∀ j, j < n → w.cell? (a.add j) = some (.int .i64 (Z j))) :
    Calls Yba.prog 9 #[.slice A n c] w fun e w' => ∃ ao, e = .returned (.slice ao n n) ∧ Cp w' w.heap.size n (.slice ao n n) ∧ Below w.heap.size w w' := by
  cases A with
  | none =>
    obtain ⟨rfl, rfl⟩ := hnil rfl
    refine (clone1_nil w).mono ?_
    rintro e w' ⟨rfl, rfl⟩
    exact ⟨none, rfl, Or.inl rfl, Below.refl _ _⟩
  | some a =>
    refine (clone1_any a n c Z w hb (hcell a rfl)).mono ?_
    rintro e w' ⟨rfl, h1, h2, h3⟩
    exact ⟨_, rfl, Or.inr ⟨_, _, Nat.le_refl _, rfl, h1⟩, h3⟩

/-- What holds when k rows are copied. -/
structure Half (w wr : World) (n k : Nat) (L : Nat → Nat) (T : Nat → Value) : Prop where
  below : Below w.heap.size w wr
  size : w.heap.size < wr.heap.size
  top : wr.rowIs w.heap.size 25 n T
  done : ∀ r, r < k → Cp wr (w.heap.size + 1) (L r) (T r)

theorem half_start (w : World) (n : Nat) (L : Nat → Nat) : Half w (w.alloc (.cells (madeCells #[.slice none 0 0] n) 25)) n 0 L (fun _ => .slice none 0 0) :=
  ⟨(Below.refl _ _).alloc (Nat.le_refl _) _, by simp, World.rowIs_made w _ n 25, fun r hr => absurd hr (Nat.not_lt_zero _)⟩

theorem half_step {w wr w1 : World} {n k : Nat} {L : Nat → Nat} {T : Nat → Value} (h : Half w wr n k L T) (hb : Below wr.heap.size wr w1) (v : Value) (hv : Cp w1 (w.heap.size + 1) (L k) v) :
    Half w (w1.setCell ⟨w.heap.size, k, none⟩ v) n (k + 1) L (fun j => if j = k then v else T j) := by
  refine ⟨(h.below.trans (hb.mono (Nat.le_of_lt h.size))).setCell (Nat.le_refl _) _, by have := hb.size; have := h.size; simp; omega, (h.top.of_block (hb.block _ h.size)).set k v, fun r hr => ?_⟩
  by_cases e : r = k
  · subst e
    simp only [if_true]
    exact hv.setOther (by show w.heap.size < _; omega) _
  · simp only [if_neg e]
    exact ((h.done r (by omega)).later hb).setOther (by show w.heap.size < _; omega) _

theorem clone2_nil (w : World) :
    Calls Yba.prog 8 #[.slice none 0 0] w fun e w' => e = .returned (.slice none 0 0) ∧ w' = w := by
  have he := Lib.run_eql_slice_nil (P := Yba.prog) w 24 25 none 0 0 0 0 Yba.underlying24
  go_enter Yba.func8, Yba.ntmps8
  go_wp2
  go_ret
  exact ⟨rfl, rfl⟩

set_option maxHeartbeats 1000000 in
theorem clone2_any (ga : Addr) (n c : Nat) (A : Nat → Option Addr) (L C : Nat → Nat) (Z : Nat → Nat → Int) (w : World) (hn : 24 * n ≤ 281474976710656) (hL : ∀ r, r < n → 8 * L r ≤ 281474976710656)
    (hrow : ∀ r, r < n → w.cell? (ga.add r) = some (.slice (A r) (L r) (C r))) (hnil : ∀ r, r < n → A r = none → L r = 0 ∧ C r = 0)
    (hcell : ∀ r, r < n → ∀ a', A r = some a' → ∀ j, j < L r → w.cell? (a'.add j) = some (.int .i64 (Z r j))) :
    Calls Yba.prog 8 #[.slice (some ga) n c] w fun e w' => e = .returned (.slice (some ⟨w.heap.size, 0, none⟩) n n) ∧ ∃ T, Half w w' n n L T := by
  have he := Lib.run_eql_slice_nil (P := Yba.prog) w 24 25 (some ga) n c 0 0 Yba.underlying24
  have hmk := run_make_row' (P := Yba.prog) 24 25 (.slice none 0 0) 24 Yba.underlying24 info25 rfl .i64 .i64 n hn (by omega)
  go_enter Yba.func8, Yba.ntmps8
  go_wp2_with fail
  clear hmk he
  go_loopg [4] n (fun g i wr => ∃ (k : Nat) (T : Nat → Value), k ≤ n ∧ g = n - k ∧ i = .int .i64 k ∧ Half w wr n k L T)
  case atStart => exact ⟨0, _, Nat.zero_le _, rfl, rfl, half_start w n L⟩
  case round =>
    obtain ⟨k, T, hk, rfl, rfl, hH⟩ := hrel
    by_cases hlt : k < n
    · have hltz : (k : Int) < (n : Int) := by omega
      have g0 : wr.cell? (ga.add k) = some (.slice (A k) (L k) (C k)) := by
        rw [hH.below.cell (World.block_lt_of_cell? _ _ (hrow k hlt))]; exact hrow k hlt
      have gk : ∀ a', A k = some a' → ∀ j, j < L k → wr.cell? (a'.add j) = some (.int .i64 (Z k j)) := fun a' ha j hj => by
        rw [hH.below.cell (World.block_lt_of_cell? _ _ (hcell k hlt a' ha j hj))]; exact hcell k hlt a' ha j hj
      have gc := clone1_cp (A k) (L k) (C k) (Z k) wr (hL k hlt) (hnil k hlt) gk
      clear gk hcell hrow hnil hL
      have GC := gc
      go_wp2_with fail
      refine gc.mono ?_
      clear gc GC g0
      rintro e w1 ⟨ao, rfl, hcp, hb1⟩
      have hst := half_step hH hb1 (.slice ao (L k) (L k)) (hcp.mono (by have := hH.size; omega))
      have h0 : w1.cell? ⟨w.heap.size, k, none⟩ = some (T k) := (hH.top.of_block (hb1.block _ hH.size)).cell hlt
      have h1 : w1.frozen? ⟨w.heap.size, k, none⟩ = false := (hH.top.of_block (hb1.block _ hH.size)).frozen k
      go_wp2
      go_roundg (n - (k + 1))
      case measure => go_light; omega
      case rel => go_light; exact ⟨k + 1, _, by omega, rfl, by simp, hst⟩
    · obtain rfl : k = n := by omega
      go_wp2
      go_ret
      exact ⟨rfl, T, hH⟩
end Go.Proofs.Ybulkdkkk.C
