/-
  NewCrashDetection (function 7).
-/
import Derived.Test.YbulkdkkyFmtSets
import Derived.BigRegion
import Derived.Carry
import Derived.Deep.RegionWith
import Derived.Deep.DeepCutAuto
import Derived.Deep.OwnRows
namespace Go.Proofs.YbulkdkkyFmt.B
open Go.RowKit
set_option linter.unusedVariables false

/-- What make([]set, n) lays. -/
def Zs (n : Nat) : Array Value := madeCells #[.int .i64 0, .int .i64 0, .int .i64 0] (n * 3)

theorem make_sets (n : Nat) (hn : n ≤ 65536) (W : World) : (Instr.makeSlice 44 (.int .i64 (n : Int)) (.int .i64 (n : Int))).run Ybaf.prog W = .ok (.slice (some ⟨W.heap.size, 0, none⟩) n n) (W.alloc (.cells (Zs n) 50)) := by
  obtain ⟨i, hi, h1, h2, h3⟩ := info_parts info50
  have h := run_make (P := Ybaf.prog) W 44 50 i _ Ybaf.underlying44 hi h1 .i64 .i64 n n (by omega) (by omega) (by rw [h3]; omega) (by omega)
  rw [h2] at h
  exact h

theorem rowIs_Zs (w : World) (n : Nat) : (w.alloc (.cells (Zs n) 50)).rowIs w.heap.size 50 (n * 3) (fun _ => .int .i64 0) := by
  refine ⟨Zs n, heap_alloc_new w _, by simp [Zs, size_madeCells], fun i hi => ?_⟩
  simp only [Zs, madeCells, Array.getElem?_map]
  rw [Array.getElem?_range, if_pos hi]
  have : i % 3 = 0 ∨ i % 3 = 1 ∨ i % 3 = 2 := by omega
  rcases this with h | h | h <;> simp [h]

/-- The layout's six cells. -/
def lf (X S H U T : Int) (n : Nat) (i : Nat) : Value := [Value.int .i64 X, .int .i64 S, .int .i64 n, .int .i64 H, .int .i64 U, .int .i64 T].getD i undef
/-- The pass's eight cells. -/
def af (X S H U T : Int) (n G Mp : Nat) (i : Nat) : Value := [Value.int .i64 X, .int .i64 S, .int .i64 n, .int .i64 H, .int .i64 U, .int .i64 T, .slice (some ⟨G, 0, none⟩) n n, .map (some Mp)].getD i undef

/-- What NewCrashDetection has laid: the layout at block L, the pass at A, its sets at G, its map at Mp. -/
structure Laid (w wc : World) (L A G Mp n : Nat) (X S H U T : Int) (row : Nat → Value) : Prop where
  below : Below w.heap.size w wc
  l : wc.rowIs L 43 6 (lf X S H U T n)
  a : wc.rowIs A 47 8 (af X S H U T n G Mp)
  g : wc.rowIs G 50 (n * 3) row
  m : wc.heap[Mp]? = some (.map #[] 0)
  gw : w.heap.size ≤ G
  lg : L ≠ G
  ag : A ≠ G
  mg : Mp ≠ G

theorem Laid.start1 {w w1 : World} (hb : Below w.heap.size w w1) (X S H U T : Int) (n : Nat) :
    Laid w (((((w1.alloc (.cells #[.int .i64 X, .int .i64 S, .int .i64 n, .int .i64 H, .int .i64 U, .int .i64 T] 43)).alloc (.cells (Zs n) 50)).alloc (.map #[] 0)).alloc
      (.cells #[.int .i64 X, .int .i64 S, .int .i64 n, .int .i64 H, .int .i64 U, .int .i64 T, .slice (some ⟨w1.heap.size + 1, 0, none⟩) n n, .map (some (w1.heap.size + 1 + 1))] 47)).drew)
      w1.heap.size (w1.heap.size + 1 + 1 + 1) (w1.heap.size + 1) (w1.heap.size + 1 + 1) n X S H U T (fun _ => .int .i64 0) := by
  have hs := hb.size
  refine ⟨?_, ?_, ?_, ?_, ?_, by omega, by omega, by omega, by omega⟩
  · exact ((((hb.alloc hs _).alloc (by simp; omega) _).alloc (by simp; omega) _).alloc (by simp; omega) _).drew
  · refine (((World.rowIs_alloc w1 _ 43 _ (fun i hi => ?_)).alloc _).alloc _).alloc _ |>.drew
    match i, hi with
    | 0, _ => rfl
    | 1, _ => rfl
    | 2, _ => rfl
    | 3, _ => rfl
    | 4, _ => rfl
    | 5, _ => rfl
  · have e : (((w1.alloc (.cells #[.int .i64 X, .int .i64 S, .int .i64 n, .int .i64 H, .int .i64 U, .int .i64 T] 43)).alloc (.cells (Zs n) 50)).alloc (.map #[] 0)).heap.size = w1.heap.size + 1 + 1 + 1 := by simp
    have h := World.rowIs_alloc (((w1.alloc (.cells #[.int .i64 X, .int .i64 S, .int .i64 n, .int .i64 H, .int .i64 U, .int .i64 T] 43)).alloc (.cells (Zs n) 50)).alloc (.map #[] 0))
      #[.int .i64 X, .int .i64 S, .int .i64 n, .int .i64 H, .int .i64 U, .int .i64 T, .slice (some ⟨w1.heap.size + 1, 0, none⟩) n n, .map (some (w1.heap.size + 1 + 1))] 47 (af X S H U T n (w1.heap.size + 1) (w1.heap.size + 1 + 1)) (fun i hi => by
        match i, hi with
        | 0, _ => rfl
        | 1, _ => rfl
        | 2, _ => rfl
        | 3, _ => rfl
        | 4, _ => rfl
        | 5, _ => rfl
        | 6, _ => rfl
        | 7, _ => rfl)
    rw [e] at h
    exact h.drew
  · have e : (w1.alloc (.cells #[.int .i64 X, .int .i64 S, .int .i64 n, .int .i64 H, .int .i64 U, .int .i64 T] 43)).heap.size = w1.heap.size + 1 := by simp
    have h := rowIs_Zs (w1.alloc (.cells #[.int .i64 X, .int .i64 S, .int .i64 n, .int .i64 H, .int .i64 U, .int .i64 T] 43)) n
    rw [e] at h
    exact ((h.alloc _).alloc _).drew
  · show (World.alloc _ _).heap[_]? = _
    rw [Below.heap_alloc _ _ _ (by simp)]
    have e : ((w1.alloc (.cells #[.int .i64 X, .int .i64 S, .int .i64 n, .int .i64 H, .int .i64 U, .int .i64 T] 43)).alloc (.cells (Zs n) 50)).heap.size = w1.heap.size + 1 + 1 := by simp
    have h := heap_alloc_new ((w1.alloc (.cells #[.int .i64 X, .int .i64 S, .int .i64 n, .int .i64 H, .int .i64 U, .int .i64 T] 43)).alloc (.cells (Zs n) 50)) (.map #[] 0)
    rw [e] at h
    exact h

theorem Laid.start2 {w w1 : World} (hb : Below w.heap.size w w1) (X S H U T : Int) (n : Nat) :
    Laid w (((((w1.alloc (.cells #[.int .i64 X, .int .i64 S, .int .i64 n, .int .i64 H, .int .i64 U, .int .i64 T] 43)).alloc (.map #[] 0)).alloc (.cells (Zs n) 50)).alloc
      (.cells #[.int .i64 X, .int .i64 S, .int .i64 n, .int .i64 H, .int .i64 U, .int .i64 T, .slice (some ⟨w1.heap.size + 1 + 1, 0, none⟩) n n, .map (some (w1.heap.size + 1))] 47)).drew)
      w1.heap.size (w1.heap.size + 1 + 1 + 1) (w1.heap.size + 1 + 1) (w1.heap.size + 1) n X S H U T (fun _ => .int .i64 0) := by
  have hs := hb.size
  refine ⟨?_, ?_, ?_, ?_, ?_, by omega, by omega, by omega, by omega⟩
  · exact ((((hb.alloc hs _).alloc (by simp; omega) _).alloc (by simp; omega) _).alloc (by simp; omega) _).drew
  · refine (((World.rowIs_alloc w1 _ 43 _ (fun i hi => ?_)).alloc _).alloc _).alloc _ |>.drew
    match i, hi with
    | 0, _ => rfl
    | 1, _ => rfl
    | 2, _ => rfl
    | 3, _ => rfl
    | 4, _ => rfl
    | 5, _ => rfl
  · have e : (((w1.alloc (.cells #[.int .i64 X, .int .i64 S, .int .i64 n, .int .i64 H, .int .i64 U, .int .i64 T] 43)).alloc (.map #[] 0)).alloc (.cells (Zs n) 50)).heap.size = w1.heap.size + 1 + 1 + 1 := by simp
    have h := World.rowIs_alloc (((w1.alloc (.cells #[.int .i64 X, .int .i64 S, .int .i64 n, .int .i64 H, .int .i64 U, .int .i64 T] 43)).alloc (.map #[] 0)).alloc (.cells (Zs n) 50))
      #[.int .i64 X, .int .i64 S, .int .i64 n, .int .i64 H, .int .i64 U, .int .i64 T, .slice (some ⟨w1.heap.size + 1 + 1, 0, none⟩) n n, .map (some (w1.heap.size + 1))] 47 (af X S H U T n (w1.heap.size + 1 + 1) (w1.heap.size + 1)) (fun i hi => by
        match i, hi with
        | 0, _ => rfl
        | 1, _ => rfl
        | 2, _ => rfl
        | 3, _ => rfl
        | 4, _ => rfl
        | 5, _ => rfl
        | 6, _ => rfl
        | 7, _ => rfl)
    rw [e] at h
    exact h.drew
  · have e : ((w1.alloc (.cells #[.int .i64 X, .int .i64 S, .int .i64 n, .int .i64 H, .int .i64 U, .int .i64 T] 43)).alloc (.map #[] 0)).heap.size = w1.heap.size + 1 + 1 := by simp
    have h := rowIs_Zs ((w1.alloc (.cells #[.int .i64 X, .int .i64 S, .int .i64 n, .int .i64 H, .int .i64 U, .int .i64 T] 43)).alloc (.map #[] 0)) n
    rw [e] at h
    exact (h.alloc _).drew
  · show (World.alloc _ _).heap[_]? = _
    rw [Below.heap_alloc _ _ _ (by simp), Below.heap_alloc _ _ _ (by simp)]
    have e : (w1.alloc (.cells #[.int .i64 X, .int .i64 S, .int .i64 n, .int .i64 H, .int .i64 U, .int .i64 T] 43)).heap.size = w1.heap.size + 1 := by simp
    have h := heap_alloc_new (w1.alloc (.cells #[.int .i64 X, .int .i64 S, .int .i64 n, .int .i64 H, .int .i64 U, .int .i64 T] 43)) (.map #[] 0)
    rw [e] at h
    exact h

/-- A store into the sets. -/
theorem Laid.set {w wc : World} {L A G Mp n : Nat} {X S H U T : Int} {row : Nat → Value} (h : Laid w wc L A G Mp n X S H U T row) (i : Nat) (v : Value) :
    Laid w (wc.setCell ⟨G, i, none⟩ v) L A G Mp n X S H U T (fun j => if j = i then v else row j) :=
  ⟨h.below.setCell h.gw v, h.l.setOther h.lg v, h.a.setOther h.ag v, h.g.set i v, (Below.heap_setCell _ _ _ _ h.mg).trans h.m, h.gw, h.lg, h.ag, h.mg⟩
theorem Laid.drew {w wc : World} {L A G Mp n : Nat} {X S H U T : Int} {row : Nat → Value} (h : Laid w wc L A G Mp n X S H U T row) : Laid w wc.drew L A G Mp n X S H U T row :=
  ⟨h.below.drew, h.l.drew, h.a.drew, h.g.drew, h.m, h.gw, h.lg, h.ag, h.mg⟩
theorem Laid.alloc {w wc : World} {L A G Mp n : Nat} {X S H U T : Int} {row : Nat → Value} (h : Laid w wc L A G Mp n X S H U T row) (o : Obj) : Laid w (wc.alloc o) L A G Mp n X S H U T row :=
  ⟨h.below.alloc h.below.size o, h.l.alloc o, h.a.alloc o, h.g.alloc o, (Below.heap_alloc _ _ _ (Array.getElem?_eq_some_iff.1 h.m).1).trans h.m, h.gw, h.lg, h.ag, h.mg⟩
theorem Laid.congr {w wc : World} {L A G Mp n : Nat} {X S H U T : Int} {row row' : Nat → Value} (h : Laid w wc L A G Mp n X S H U T row) (e : ∀ i, i < n * 3 → row i = row' i) : Laid w wc L A G Mp n X S H U T row' :=
  ⟨h.below, h.l, h.a, h.g.congr e, h.m, h.gw, h.lg, h.ag, h.mg⟩

/-- The three cells of set i, by the index of the cell. -/
def setCell (S U : Int) (j : Nat) : Value := if j % 3 = 0 then .int .i64 S else if j % 3 = 1 then .int .i64 ((j / 3 : Nat) % U + 1) else .int .i64 ((j / 3 : Nat) / U + 1)
/-- k sets are filled. -/
def rowK (S U : Int) (k : Nat) (j : Nat) : Value := if j < k * 3 then setCell S U j else .int .i64 0

theorem Laid.step {w wc : World} {L A G Mp n k : Nat} {X S H U T : Int} (h : Laid w wc L A G Mp n X S H U T (rowK S U k)) :
    Laid w ((((wc.setCell ⟨G, k * 3, none⟩ (.int .i64 S)).setCell ⟨G, k * 3 + 1, none⟩ (.int .i64 ((k : Int) % U + 1))).setCell ⟨G, k * 3 + 2, none⟩ (.int .i64 ((k : Int) / U + 1))).drew) L A G Mp n X S H U T (rowK S U (k + 1)) := by
  refine ((((h.set _ _).set _ _).set _ _).congr (fun i hi => ?_)).drew
  unfold rowK
  by_cases e2 : i = k * 3 + 2
  · subst e2
    rw [if_pos rfl, if_pos (by omega), setCell, if_neg (by omega), if_neg (by omega), show (k * 3 + 2) / 3 = k by omega]
  · rw [if_neg e2]
    by_cases e1 : i = k * 3 + 1
    · subst e1
      rw [if_pos rfl, if_pos (by omega), setCell, if_neg (by omega), if_pos (by omega), show (k * 3 + 1) / 3 = k by omega]
    · rw [if_neg e1]
      by_cases e0 : i = k * 3
      · subst e0
        rw [if_pos rfl, if_pos (by omega), setCell, if_pos (by omega)]
      · rw [if_neg e0]
        by_cases hlt : i < k * 3
        · rw [if_pos hlt, if_pos (by omega)]
        · rw [if_neg hlt, if_neg (by omega)]

/-- The sets when all is done: the last holds the rest of the players. -/
def rowE (X S U P : Int) (n : Nat) (j : Nat) : Value := if j = (n - 1) * 3 then .int .i64 (X - P) else setCell S U j

theorem Laid.last {w wc : World} {L A G Mp n : Nat} {X S H U T : Int} (P : Int) (h : Laid w wc L A G Mp n X S H U T (rowK S U n)) (hn : 1 ≤ n) :
    Laid w (wc.setCell ⟨G, (n - 1) * 3, none⟩ (.int .i64 (X - P))) L A G Mp n X S H U T (rowE X S U P n) := by
  refine (h.set _ _).congr (fun i hi => ?_)
  unfold rowE
  by_cases e : i = (n - 1) * 3
  · rw [if_pos e, if_pos e]
  · rw [if_neg e, if_neg e, rowK, if_pos hi]

set_option maxHeartbeats 4000000 in
set_option maxRecDepth 100000 in
theorem new_any (X Y K S H U T P : Int) (n : Nat) (w : World) (hL : Lay X Y K S n H U T) (hP : ((n : Int) - 1) * S = P) (p1 : 0 ≤ P) (p2 : P ≤ 65536) :
    Calls Ybaf.prog 7 #[.int .i64 X, .int .i64 Y, .int .i64 K] w fun e w' => ∃ L A G Mp, e = .returned (.pointer (some ⟨A, 0, none⟩)) ∧ Laid w w' L A G Mp n X S H U T (rowE X S U P n) := by
  have lay := layOut_any X Y K S n H U T w hL
  have LAY : Hid (Calls _ _ _ _ _) := lay
  have x1 := hL.x1; have x2 := hL.x2; have c1 := hL.c1; have c2 := hL.c2; have u1 := hL.u1; have u2 := hL.u2
  have hn : n ≤ 65536 := by omega
  have hmk := make_sets n hn
  have hmm := @run_makeMap Ybaf.prog
  have HP : Hid (((n : Int) - 1) * S = P) := hP
  clear lay hP
  go_enter Ybaf.func7, Ybaf.ntmps7
  go_wp2_with fail
  refine LAY.out.mono ?_
  clear LAY
  rintro e w1 ⟨rfl, hb1⟩
  go_upto_region 2 with fail
  go_cut [8] (fun s8 wc => ∃ A G Mp, s8 = .pointer (some ⟨A, 0, none⟩) ∧ Laid w wc w1.heap.size A G Mp n X S H U T (fun _ => .int .i64 0))
  case first =>
    go_region
    all_goals go_wp2_with fail
    all_goals go_meet
    · exact ⟨_, _, _, rfl, Laid.start1 hb1 X S H U T n⟩
    · exact ⟨_, _, _, rfl, Laid.start2 hb1 X S H U T n⟩
  case rest =>
    obtain ⟨A, G, Mp, rfl, hW⟩ := hcut
    clear hmk hmm
    have d6 : wc.cell? ⟨A, 6, none⟩ = some (.slice (some ⟨G, 0, none⟩) n n) := hW.a.cell (i := 6) (by omega)
    go_wp2_with fail
    clear d6
    go_loopg [26] n (fun g i wr => ∃ k : Nat, k ≤ n ∧ g = n - k ∧ i = .int .i64 k ∧ Laid w wr w1.heap.size A G Mp n X S H U T (rowK S U k))
    case atStart => exact ⟨0, Nat.zero_le _, rfl, rfl, hW.congr (fun i hi => by simp [rowK])⟩
    case round =>
      obtain ⟨k, hk, rfl, rfl, hR⟩ := hrel
      clear hW
      have d6 : wr.cell? ⟨A, 6, none⟩ = some (.slice (some ⟨G, 0, none⟩) n n) := hR.a.cell (i := 6) (by omega)
      have l1 : wr.cell? ⟨w1.heap.size, 1, none⟩ = some (.int .i64 S) := hR.l.cell (i := 1) (by omega)
      have l4 : wr.cell? ⟨w1.heap.size, 4, none⟩ = some (.int .i64 U) := hR.l.cell (i := 4) (by omega)
      by_cases hlt : k < n
      · have hltz : (k : Int) < (n : Int) := by omega
        have g0 : wr.cell? ⟨G, k * 3, none⟩ = some (rowK S U k (k * 3)) := hR.g.cell (by omega)
        have g1 : wr.cell? ⟨G, k * 3 + 1, none⟩ = some (rowK S U k (k * 3 + 1)) := hR.g.cell (by omega)
        have g2 : wr.cell? ⟨G, k * 3 + 2, none⟩ = some (rowK S U k (k * 3 + 2)) := hR.g.cell (by omega)
        have f0 : wr.frozen? ⟨G, k * 3, none⟩ = false := hR.g.frozen _
        have f1 : wr.frozen? ⟨G, k * 3 + 1, none⟩ = false := hR.g.frozen _
        have f2 : wr.frozen? ⟨G, k * 3 + 2, none⟩ = false := hR.g.frozen _
        have hs := hR.step
        obtain ⟨R, hR1⟩ : ∃ R, (k : Int) % U = R := ⟨_, rfl⟩
        obtain ⟨Q, hQ1⟩ : ∃ Q, (k : Int) / U = Q := ⟨_, rfl⟩
        have r0 : 0 ≤ R := by rw [← hR1]; exact Int.emod_nonneg _ (by omega)
        have r1 : R < 65536 := by rw [← hR1]; have := Int.emod_lt_of_pos (k : Int) (show 0 < U by omega); omega
        have q0 : 0 ≤ Q := by rw [← hQ1]; exact Int.ediv_nonneg (by omega) (by omega)
        have q1 : Q ≤ k := by rw [← hQ1]; exact Int.ediv_le_self _ (by omega)
        rw [hR1, hQ1] at hs
        go_wp2_with fail
        go_region
        go_wp2
        go_roundg (n - (k + 1))
        case measure => go_light; omega
        case rel => go_light; exact ⟨k + 1, by omega, rfl, by simp, hs⟩
      · obtain rfl : k = n := by omega
        clear hlt hk
        have l0 : wr.cell? ⟨w1.heap.size, 0, none⟩ = some (.int .i64 X) := hR.l.cell (i := 0) (by omega)
        have l2 : wr.cell? ⟨w1.heap.size, 2, none⟩ = some (.int .i64 k) := hR.l.cell (i := 2) (by omega)
        have l3 : wr.cell? ⟨w1.heap.size, 3, none⟩ = some (.int .i64 H) := hR.l.cell (i := 3) (by omega)
        have l5 : wr.cell? ⟨w1.heap.size, 5, none⟩ = some (.int .i64 T) := hR.l.cell (i := 5) (by omega)
        have hk1 : 1 ≤ k := by omega
        have g0 : wr.cell? ⟨G, (k - 1) * 3, none⟩ = some (rowK S U k ((k - 1) * 3)) := hR.g.cell (by omega)
        have f0 : wr.frozen? ⟨G, (k - 1) * 3, none⟩ = false := hR.g.frozen _
        have hGlt : G < wr.heap.size := hR.g.lt
        have hAlt : A < wr.heap.size := hR.a.lt
        have hLlt : w1.heap.size < wr.heap.size := hR.l.lt
        have hlast : ∀ W : World, Calls Ybaf.prog 16 #[.agg #[.int .i64 X, .int .i64 S, .int .i64 k, .int .i64 H, .int .i64 U, .int .i64 T]] W fun e w' => e = .returned (.int .i64 (X - P)) ∧
          w' = W.alloc (.cells #[.int .i64 X, .int .i64 S, .int .i64 k, .int .i64 H, .int .i64 U, .int .i64 T] 43) := fun W => last_any X S k H U T P W x1 x2 c1 c2 HP.out p1 p2
        have HLAST : Hid (∀ W : World, Calls _ _ _ _ _) := hlast
        clear hlast
        have e0 : (0 : Int) ≤ (k : Int) - 1 := by omega
        have e1 : (k : Int) - 1 < (k : Int) := by omega
        have e2 : IntKind.i64.wrap ((k : Int) - 1) = (k : Int) - 1 := by rw [IntKind.wrap_i64]; omega
        have e3 : ((k : Int) - 1).toNat = k - 1 := by omega
        go_wp2_with fail
        go_region_with (go_at_call 16; refine (HLAST.out _).mono ?_; rintro e w2 ⟨rfl, rfl⟩)
        all_goals go_wp2_with fail
        all_goals go_ret
        all_goals exact ⟨_, A, G, Mp, rfl, ((hR.last P hk1).alloc _).drew⟩
end Go.Proofs.YbulkdkkyFmt.B
