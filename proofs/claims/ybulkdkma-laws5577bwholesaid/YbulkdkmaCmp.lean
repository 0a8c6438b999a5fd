/-
  (math/big.nat).cmp (function 18) of equal words, (*math/big.Int).Cmp (7) of equal numbers.
-/
import Derived.Test.YbulkdkmaInt
namespace Go.Proofs.Ybulkdkma.N
open Go.RowKit Go.Deep
set_option linter.unusedVariables false

theorem cmp18_zero (A A' : Option Addr) (c c' : Nat) (w : World) : Calls Yba.prog 18 #[.slice A 0 c, .slice A' 0 c'] w fun e w' => e = .returned (.int .i64 0) ∧ ∃ q, w' = w.drewN q := by
  go_enter Yba.func18, Yba.ntmps18
  go_wp2_with fail
  go_ret
  exact ⟨rfl, 0, rfl⟩

set_option maxHeartbeats 2000000 in
set_option maxRecDepth 100000 in
theorem cmp18 (g g' K c c' : Nat) (W : Nat → Nat) (w : World) (hK : 0 < K) (hK2 : K ≤ 300000) (h1 : ∀ k, k < K → w.cell? ⟨g, k, none⟩ = some (.int .u64 (W k : Nat))) (h2 : ∀ k, k < K → w.cell? ⟨g', k, none⟩ = some (.int .u64 (W k : Nat))) :
    Calls Yba.prog 18 #[.slice (some ⟨g, 0, none⟩) K c, .slice (some ⟨g', 0, none⟩) K c'] w fun e w' => e = .returned (.int .i64 0) ∧ ∃ q, w' = w.drewN q := by
  obtain ⟨J, rfl⟩ : ∃ J, K = J + 1 := ⟨K - 1, by omega⟩
  have H1 : Hid ((∀ k, k < J + 1 → w.cell? ⟨g, k, none⟩ = some (.int .u64 (W k : Nat))) ∧ ∀ k, k < J + 1 → w.cell? ⟨g', k, none⟩ = some (.int .u64 (W k : Nat))) := ⟨h1, h2⟩
  clear h1 h2
  have hK0 : ((J : Int) + 1 == 0) = false := by simp; omega
  go_enter Yba.func18, Yba.ntmps18
  go_wp2_with fail
  (try rw [show ((J : Int) + 1 == 0) = false by simp; omega])
  go_loopg [7] J (fun x i wr => ∃ k q : Nat, k ≤ J ∧ x = k ∧ i = .int .i64 k ∧ wr = w.drewN q)
  case atStart => exact ⟨J, 0, Nat.le_refl _, rfl, by simp, rfl⟩
  case round =>
    obtain ⟨k, q, hk, hx, rfl, rfl⟩ := hrel
    obtain rfl : k = _ := hx.symm
    have e1 := H1.out.1 k (by omega)
    have e2 := H1.out.2 k (by omega)
    have hkz : (k : Int) < ((J + 1 : Nat) : Int) := by omega
    by_cases h0 : k = 0
    · subst h0
      have hd : decide ((0 : Int) < ((0 : Nat) : Int)) = false := rfl
      go_wp2_with fail
      go_quiet (fail)
      go_wp2_with fail
      go_quiet (fail)
      go_wp2_with fail
      go_quiet (fail)
      go_wp2_with fail
      go_ret
      exact ⟨rfl, _, by simp; rfl⟩
    · have h0z : 0 < k := by omega
      go_wp2_with fail
      go_quiet (fail)
      go_wp2_with fail
      go_roundg (k - 1)
      case measure => go_light; omega
      case rel =>
        go_light
        exact ⟨k - 1, _, by omega, rfl, by simp; omega, rfl⟩

theorem cmpWd {K c c' B B' : Nat} {A A' : Option Addr} {w : World} {m : Nat → Nat} (hK : K ≤ 300000) (h : Wd w B (.slice A K c) m K) (h' : Wd w B' (.slice A' K c') m K) (q : Nat) :
    Calls Yba.prog 18 #[.slice A K c, .slice A' K c'] (w.drewN q) fun e w' => e = .returned (.int .i64 0) ∧ ∃ t, w' = (w.drewN q).drewN t := by
  by_cases h0 : K = 0
  · subst h0
    exact cmp18_zero A A' c c' _
  · rcases h with ⟨e, _⟩ | ⟨g, cap, f, e, h1, h2, _, hr, hf⟩
    · exact absurd e h0
    · rcases h' with ⟨e', _⟩ | ⟨g', cap', f', e', h1', h2', _, hr', hf'⟩
      · exact absurd e' h0
      · cases e
        cases e'
        exact cmp18 g g' K c c' (word m) (w.drewN q) (by omega) hK (fun k hk => by show w.cell? _ = _; rw [hr.cell (by omega), hf k hk]) (fun k hk => by show w.cell? _ = _; rw [hr'.cell (by omega), hf' k hk])

theorem eql_other23 {W : World} {D D' : Nat} {f f' : Nat → Value} (h : W.rowIs D 27 2 f) (h' : W.rowIs D' 27 2 f') (hne : D ≠ D') (q : Nat) :
    (binOp .eql 23 (.pointer (some ⟨D, 0, none⟩)) (.pointer (some ⟨D', 0, none⟩))).run Yba.prog (W.drewN q) = .ok (.bool false) (W.drewN q) := by
  obtain ⟨j, hj, hs⟩ := Option.map_eq_some_iff.1 info27
  obtain ⟨c1, e1, _⟩ := h
  obtain ⟨c2, e2, _⟩ := h'
  exact run_eql_ptr_other (W.drewN q) Yba.underlying23 hj (by rw [hs]; simp) (fun h => hne (congrArg Addr.block h)) e1 e2

set_option maxHeartbeats 1000000 in
theorem cmp7 (D D' K c c' B B' : Nat) (A A' : Option Addr) (s : Bool) (w : World) (m : Nat → Nat) (hK : K ≤ 300000) (hne : D ≠ D') (hb : w.rowIs D 27 2 (fun i => if i = 0 then .bool s else .slice A K c)) (hb' : w.rowIs D' 27 2 (fun i => if i = 0 then .bool s else .slice A' K c'))
    (h : Wd w B (.slice A K c) m K) (h' : Wd w B' (.slice A' K c') m K) :
    Calls Yba.prog 7 #[.pointer (some ⟨D, 0, none⟩), .pointer (some ⟨D', 0, none⟩)] w fun e w' => e = .returned (.int .i64 0) ∧ ∃ q, w' = w.drewN q := by
  have c0 : w.cell? ⟨D, 0, none⟩ = some (.bool s) := hb.cell (by omega)
  have c1 : w.cell? ⟨D, 1, none⟩ = some (.slice A K c) := hb.cell (by omega)
  have d0 : w.cell? ⟨D', 0, none⟩ = some (.bool s) := hb'.cell (by omega)
  have d1 : w.cell? ⟨D', 1, none⟩ = some (.slice A' K c') := hb'.cell (by omega)
  have he : (binOp .eql 23 (.pointer (some ⟨D, 0, none⟩)) (.pointer (some ⟨D', 0, none⟩))).run Yba.prog w = .ok (.bool false) w := eql_other23 hb hb' hne 0
  have CL : Hid (∀ q, Calls _ _ _ _ _) := fun q => cmpWd hK h h' q
  clear hb hb' h h'
  cases s
  · go_enter Yba.func7, Yba.ntmps7
    go_wp2_with fail
    go_quiet (fail)
    obtain ⟨w2, hw2⟩ : ∃ w2, w2 = w.drewN nq := ⟨_, rfl⟩
    rw [← hw2]
    have c0' : w2.cell? ⟨D, 0, none⟩ = some (.bool false) := by rw [hw2]; exact c0
    have c1' : w2.cell? ⟨D, 1, none⟩ = some (.slice A K c) := by rw [hw2]; exact c1
    have d1' : w2.cell? ⟨D', 1, none⟩ = some (.slice A' K c') := by rw [hw2]; exact d1
    have CL2 : Hid (∀ q, Calls Yba.prog 18 #[.slice A K c, .slice A' K c'] (w2.drewN q) fun e w' => e = .returned (.int .i64 0) ∧ ∃ t, w' = (w2.drewN q).drewN t) := fun q => by
      have := CL.out (nq + q)
      rw [← World.drewN_drewN, ← hw2] at this
      exact this
    have HW2 : Hid (w2 = w.drewN nq) := hw2
    clear hw2 c0 c1 d0 d1 he CL
    go_wp2_with fail
    go_quiet ((go_at_call 18; exact Calls.quiet_of (CL2.out _)))
    go_wp2_with fail
    go_ret
    exact ⟨rfl, _, by rw [HW2.out]; simp; rfl⟩
  · go_enter Yba.func7, Yba.ntmps7
    go_wp2_with fail
    go_quiet (fail)
    obtain ⟨w2, hw2⟩ : ∃ w2, w2 = w.drewN nq := ⟨_, rfl⟩
    rw [← hw2]
    have c0' : w2.cell? ⟨D, 0, none⟩ = some (.bool true) := by rw [hw2]; exact c0
    have c1' : w2.cell? ⟨D, 1, none⟩ = some (.slice A K c) := by rw [hw2]; exact c1
    have d1' : w2.cell? ⟨D', 1, none⟩ = some (.slice A' K c') := by rw [hw2]; exact d1
    have CL2 : Hid (∀ q, Calls Yba.prog 18 #[.slice A K c, .slice A' K c'] (w2.drewN q) fun e w' => e = .returned (.int .i64 0) ∧ ∃ t, w' = (w2.drewN q).drewN t) := fun q => by
      have := CL.out (nq + q)
      rw [← World.drewN_drewN, ← hw2] at this
      exact this
    have HW2 : Hid (w2 = w.drewN nq) := hw2
    clear hw2 c0 c1 d0 d1 he CL
    go_wp2_with fail
    go_quiet ((go_at_call 18; exact Calls.quiet_of (CL2.out _)))
    go_wp2_with fail
    go_ret
    exact ⟨rfl, _, by rw [HW2.out]; simp; rfl⟩
end Go.Proofs.Ybulkdkma.N
