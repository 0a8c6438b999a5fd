/-
  (*math/big.Int).SetBytes (function 4), Set (15) and Neg (5) of an Int onto itself.
-/
import Derived.Test.YbulkdkmaSet
import Derived.LaidEqlPtr
namespace Go.Proofs.Ybulkdkma.N
open Go.RowKit Go.Deep
set_option linter.unusedVariables false

theorem set14_none (a0 : Option Addr) (cap0 : Nat) (w : World) : Calls Yba.prog 14 #[.slice none 0 0, .slice a0 0 cap0] w fun e w' => e = .returned (.slice none 0 0) ∧ w' = w := by
  have MK : Hid (Calls Yba.prog 19 #[.slice none 0 0, .int .i64 0] w fun e w' => e = .returned (.slice none 0 0) ∧ w' = w) := (make19 0 (by omega) w).mono (by
    rintro e w' (⟨_, h⟩ | ⟨h0, _⟩)
    · exact h
    · omega)
  have NM : Hid (Calls _ _ _ _ _) := norm_nil w
  go_enter Yba.func14, Yba.ntmps14
  go_wp2_with (go_at_call 19; refine MK.out.mono ?_; rintro e w1 ⟨rfl, rfl⟩)
  go_loopg [5, 6] 0 (fun g i k wr => g = 0 ∧ i = .int .i64 0 ∧ wr = w1)
  case atStart => exact ⟨rfl, rfl, rfl⟩
  case round =>
    obtain ⟨rfl, rfl, rfl⟩ := hrel
    go_wp2_with (go_at_call 21; refine NM.out.mono ?_; rintro e w2 ⟨rfl, rfl⟩)
    go_ret
    exact ⟨rfl, rfl⟩

/-- What is told of the bytes: m their numbers, the last first. -/
def Bytes (w : World) (a0 : Option Addr) (n cap0 : Nat) (m : Nat → Nat) : Prop :=
  n = 0 ∨ (n ≤ cap0 ∧ cap0 ≤ 9223372036854775807 ∧ ∃ a, a0 = some a ∧ ∀ u, u < n → w.cell? (a.add (n - 1 - u)) = some (.int .u8 (m u : Nat)))
theorem Bytes.below {w w' : World} {a0 : Option Addr} {n cap0 : Nat} {m : Nat → Nat} (h : Bytes w a0 n cap0 m) (hk : Below w.heap.size w w') : Bytes w' a0 n cap0 m := by
  rcases h with h | ⟨h1, h2, a, ha, h3⟩
  · exact Or.inl h
  · exact Or.inr ⟨h1, h2, a, ha, fun u hu => by
      rw [hk.cell (World.block_lt_of_cell? _ _ (h3 u hu))]; exact h3 u hu⟩

theorem set14_all (a0 : Option Addr) (n cap0 : Nat) (w : World) (m : Nat → Nat) (hn2 : n ≤ 1048576) (hm : ∀ u, m u < 256) (hz : ∀ u, n ≤ u → m u = 0) (hB : Bytes w a0 n cap0 m) :
    Calls Yba.prog 14 #[.slice none 0 0, .slice a0 n cap0] w fun e w' => ∃ v K, e = .returned v ∧ Wd w' w.heap.size v m K ∧ Norm m K ∧ Kept (fun _ => False) w w' := by
  by_cases hn : n = 0
  · subst hn
    refine (set14_none a0 cap0 w).mono ?_
    rintro e w' ⟨rfl, rfl⟩
    exact ⟨_, 0, rfl, Or.inl ⟨rfl, rfl⟩, ⟨fun u _ => hz u (by omega), Or.inl rfl⟩, Kept.refl _ _⟩
  · rcases hB with h | ⟨h1, h2, a, rfl, h3⟩
    · exact absurd h hn
    · exact set14 a n cap0 w m (by omega) hn2 h1 h2 hm hz h3

theorem Wd.form {w : World} {B : Nat} {v : Value} {m : Nat → Nat} {K : Nat} (h : Wd w B v m K) : ∃ A c, v = .slice A K c := by
  rcases h with ⟨rfl, rfl⟩ | ⟨g, cap, f, rfl, _⟩
  · exact ⟨none, 0, rfl⟩
  · exact ⟨_, _, rfl⟩
theorem Wd.block {w : World} {B k : Nat} {v : Value} {m : Nat → Nat} {K : Nat} (h : Wd w B v m K) (e : v.ownBlock = some k) : B ≤ k ∧ k < w.heap.size := by
  rcases h with ⟨_, rfl⟩ | ⟨g, cap, f, rfl, _, _, hg, hr, _⟩
  · cases e
  · simp [Value.ownBlock] at e
    subst e
    exact ⟨hg, hr.lt⟩

theorem sb4 (D n cap0 : Nat) (a0 : Option Addr) (w : World) (m : Nat → Nat) (hbox : w.rowIs D 27 2 (fun i => if i = 0 then .bool false else .slice none 0 0)) (hn2 : n ≤ 1048576) (hm : ∀ u, m u < 256) (hz : ∀ u, n ≤ u → m u = 0) (hB : Bytes w a0 n cap0 m) :
    Calls Yba.prog 4 #[.pointer (some ⟨D, 0, none⟩), .slice a0 n cap0] w fun e w' => e = .returned (.pointer (some ⟨D, 0, none⟩)) ∧ ∃ A K c, w'.rowIs D 27 2 (fun i => if i = 0 then .bool false else .slice A K c) ∧ Wd w' w.heap.size (.slice A K c) m K ∧ Norm m K ∧ Kept (fun k => k = D) w w' := by
  have c0 : w.cell? ⟨D, 0, none⟩ = some (.bool false) := hbox.cell (by omega)
  have c1 : w.cell? ⟨D, 1, none⟩ = some (.slice none 0 0) := hbox.cell (by omega)
  have hD : D < w.heap.size := hbox.lt
  have CL : Hid (Calls Yba.prog 14 #[.slice none 0 0, .slice a0 n cap0] w fun e w' => ∃ A K c, e = .returned (.slice A K c) ∧ w'.cell? ⟨D, 0, none⟩ = some (.bool false) ∧ w'.cell? ⟨D, 1, none⟩ = some (.slice none 0 0) ∧ w'.frozen? ⟨D, 0, none⟩ = false ∧ w'.frozen? ⟨D, 1, none⟩ = false ∧
      Hid (w'.rowIs D 27 2 (fun i => if i = 0 then .bool false else .slice none 0 0) ∧ Wd w' w.heap.size (.slice A K c) m K ∧ Norm m K ∧ Kept (fun _ => False) w w')) := (set14_all a0 n cap0 w m hn2 hm hz hB).mono (by
    rintro e w' ⟨v, K, rfl, h1, h2, h3⟩
    have hb := h3.rowIs hbox (fun x => x)
    obtain ⟨A, c, rfl⟩ := h1.form
    exact ⟨A, K, c, rfl, hb.cell (by omega), hb.cell (by omega), hb.frozen 0, hb.frozen 1, hb, h1, h2, h3⟩)
  have HW : Hid (D < w.heap.size) := hD
  clear hbox hm hz hB
  go_enter Yba.func4, Yba.ntmps4
  go_wp2_with (go_at_call 14; refine CL.out.mono ?_; rintro e w1 ⟨A, K, c, rfl, x0, x1, f0, f1, HX⟩)
  go_ret
  obtain ⟨h1, h2, h3, h4⟩ := HX.out
  have hk : Kept (fun k => k = D) w1 ((w1.setCell ⟨D, 1, none⟩ (.slice A K c)).setCell ⟨D, 0, none⟩ (.bool false)) := Kept.setCell (p := fun k => k = D) (Kept.setCell (p := fun k => k = D) (Kept.refl _ w1) (x := ⟨D, 1, none⟩) rfl _) (x := ⟨D, 0, none⟩) rfl _
  refine ⟨rfl, A, K, c, ((h1.set 1 (.slice A K c)).set 0 (.bool false)).congr (fun i hi => ?_), h2.kept hk (fun k e e2 => ?_), h3, (h4.mono (fun _ e => False.elim e)).trans hk⟩
  · match i, hi with
    | 0, _ => rfl
    | 1, _ => rfl
  · have := h2.block e
    have := HW.out
    omega

theorem info27 : (Yba.prog.info? 27).map (fun i => i.size) = some 2 := by kernel_rfl
theorem eql_same23 (W : World) (a : Addr) : (binOp .eql 23 (.pointer (some a)) (.pointer (some a))).run Yba.prog W = .ok (.bool true) W := by
  obtain ⟨j, hj, _⟩ := Option.map_eq_some_iff.1 info27
  exact run_eql_ptr_same W a Yba.underlying23 hj
theorem neq_same23 (W : World) (a : Addr) : (binOp .neq 23 (.pointer (some a)) (.pointer (some a))).run Yba.prog W = .ok (.bool false) W := by
  obtain ⟨j, hj, _⟩ := Option.map_eq_some_iff.1 info27
  have h : ∀ d : Nat, (Op.equalIn (d + 1) 23 (.pointer (some a)) (.pointer (some a))).run Yba.prog W = .ok true W := fun d => by
    simp [Op.equalIn, run_underlying Yba.underlying23, sizeOf, typeInfo, hj, run_sameAddr_same]
  simp only [binOp]
  simp [Op.equal, Op.maxDepth, h 9999]

theorem set15 (D : Nat) (w : World) : Calls Yba.prog 15 #[.pointer (some ⟨D, 0, none⟩), .pointer (some ⟨D, 0, none⟩)] w fun e w' => e = .returned (.pointer (some ⟨D, 0, none⟩)) ∧ w' = w := by
  have hp := neq_same23
  go_enter Yba.func15, Yba.ntmps15
  go_wp2_with fail
  go_ret
  exact ⟨rfl, rfl⟩

theorem neg5 (D K c : Nat) (A : Option Addr) (w : World) (hK : K ≤ 300000) (hbox : w.rowIs D 27 2 (fun i => if i = 0 then .bool false else .slice A K c)) :
    Calls Yba.prog 5 #[.pointer (some ⟨D, 0, none⟩), .pointer (some ⟨D, 0, none⟩)] w fun e w' => e = .returned (.pointer (some ⟨D, 0, none⟩)) ∧ w'.rowIs D 27 2 (fun i => if i = 0 then .bool (decide (0 < K)) else .slice A K c) ∧ Kept (fun k => k = D) w w' := by
  have c0 : w.cell? ⟨D, 0, none⟩ = some (.bool false) := hbox.cell (by omega)
  have c1 : w.cell? ⟨D, 1, none⟩ = some (.slice A K c) := hbox.cell (by omega)
  have f0 : w.frozen? ⟨D, 0, none⟩ = false := hbox.frozen 0
  have CL : Hid (Calls _ _ _ _ _) := set15 D w
  have HB : Hid (w.rowIs D 27 2 (fun i => if i = 0 then .bool false else .slice A K c)) := hbox
  clear hbox
  by_cases h0 : K = 0
  · subst h0
    go_enter Yba.func5, Yba.ntmps5
    go_wp2_with (go_at_call 15; refine CL.out.mono ?_; rintro e w1 ⟨rfl, rfl⟩)
    go_ret
    exact ⟨rfl, (HB.out.set 0 _).congr (fun i hi => by match i, hi with
      | 0, _ => rfl
      | 1, _ => rfl), Kept.setCell (p := fun k => k = D) (Kept.refl _ w1) (x := ⟨D, 0, none⟩) rfl _⟩
  · have hK0 : (0 : Int) < (K : Int) := by omega
    have hd : decide (0 < K) = true := decide_eq_true (by omega)
    rw [hd]
    clear hd
    go_enter Yba.func5, Yba.ntmps5
    go_wp2_with (go_at_call 15; refine CL.out.mono ?_; rintro e w1 ⟨rfl, rfl⟩)
    go_ret
    exact ⟨rfl, (HB.out.set 0 _).congr (fun i hi => by match i, hi with
      | 0, _ => rfl
      | 1, _ => rfl), Kept.setCell (p := fun k => k = D) (Kept.refl _ w1) (x := ⟨D, 0, none⟩) rfl _⟩
end Go.Proofs.Ybulkdkma.N
