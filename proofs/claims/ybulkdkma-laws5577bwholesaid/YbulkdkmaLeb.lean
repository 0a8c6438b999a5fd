/-
  (*math/big.Int).FillBytes (function 16), littleEndianBytes (6).
-/
import Derived.Test.YbulkdkmaFill
import Derived.Test.YbulkdkmaRev
namespace Go.Proofs.Ybulkdkma.N
open Go.RowKit Go.Deep
set_option linter.unusedVariables false

theorem zero5 (w : World) : (zeroValue 5).run Yba.prog w = .ok (.int .u8 0) w := by kernel_rfl

/-- What clear(buf) does, as an equation for the walk. -/
theorem clear_run (w : World) (b size : Nat) (h : w.rowIs b 5 size (fun _ => .int .u8 0)) :
    ∃ w1, (∀ ty, (Builtin.clear_ #[22] ty #[.slice (some ⟨b, 0, none⟩) size size]).run Yba.prog w = .ok (.tuple #[]) w1) ∧ w1.rowIs b 5 size (fun _ => .int .u8 0) ∧ Kept (fun k => k = b) w w1 := by
  by_cases h0 : size = 0
  · subst h0
    exact ⟨w, fun ty => by simp [Builtin.clear_, run_underlying Yba.underlying22], h, Kept.refl _ _⟩
  · refine ⟨_, fun ty => Lib.run_clear_slice w 22 5 ty (.int .u8 0) Yba.underlying22 zero5 rfl rfl b 0 size size (by omega) (fun j hj => by rw [h.cell (i := 0 + j) (by omega)]; rfl) (fun j _ => h.frozen _), ?_, kept_setCells (fun k => k = b) b rfl _ 0 w w (Kept.refl _ _)⟩
    refine (rowIs_put b 5 size (List.replicate size (.int .u8 0)) 0 w _ h).congr (fun x hx => ?_)
    rw [List.length_replicate, if_pos (by omega), List.getD_eq_getElem?_getD, List.getElem?_replicate, if_pos (by omega)]; rfl

theorem fill16 (D b size K c B : Nat) (A : Option Addr) (s : Bool) (w : World) (m : Nat → Nat) (hm : ∀ u, m u < 256) (hK : K ≤ 300000) (hs : size ≤ 2000000) (hz : ∀ u, size ≤ u → m u = 0) (hbox : w.rowIs D 27 2 (fun i => if i = 0 then .bool s else .slice A K c))
    (hw : Wd w B (.slice A K c) m K) (hb : w.rowIs b 5 size (fun _ => .int .u8 0)) (hne : (Value.slice A K c).ownBlock ≠ some b) (hDb : D ≠ b) :
    Calls Yba.prog 16 #[.pointer (some ⟨D, 0, none⟩), .slice (some ⟨b, 0, none⟩) size size] w fun e w' => e = .returned (.slice (some ⟨b, 0, none⟩) size size) ∧ w'.rowIs b 5 size (laid m size (8 * K)) ∧ Kept (fun k => k = b) w w' := by
  obtain ⟨w1, hcl, hr1, hk1⟩ := clear_run w b size hb
  have c1 : w1.cell? ⟨D, 1, none⟩ = some (.slice A K c) := (hk1.rowIs hbox hDb).cell (by omega)
  have CL : Hid (Calls _ _ _ _ _) := bytes23 b size K c B A w1 m hm hK hs hz (hw.kept hk1 (fun k e e2 => hne (e2 ▸ e))) hr1 hne
  have HK : Hid (Kept (fun k => k = b) w w1) := hk1
  clear hb hr1 hk1 hm hz hw hbox
  go_enter Yba.func16, Yba.ntmps16
  go_wp2_with (go_at_call 23; refine CL.out.mono ?_; rintro e w2 ⟨i, rfl, hrow, hkp⟩)
  go_ret
  exact ⟨rfl, hrow, HK.out.trans hkp⟩

theorem leb6 (D size K c B : Nat) (A : Option Addr) (s : Bool) (w : World) (m : Nat → Nat) (hm : ∀ u, m u < 256) (hK : K ≤ 300000) (hs : size ≤ 2000000) (hz : ∀ u, size ≤ u → m u = 0) (hn : Norm m K) (hbox : w.rowIs D 27 2 (fun i => if i = 0 then .bool s else .slice A K c))
    (hw : Wd w B (.slice A K c) m K) :
    Calls Yba.prog 6 #[.pointer (some ⟨D, 0, none⟩), .int .i64 size] w fun e w' => e = .returned (.slice (some ⟨w.heap.size, 0, none⟩) size size) ∧ w'.rowIs w.heap.size 5 size (fun x => .int .u8 (m x : Nat)) ∧ Kept (fun _ => False) w w' := by
  have hmk := run_make_row' (P := Yba.prog) 22 5 (.int .u8 0) 1 Yba.underlying22 info5 rfl .i64 .i64 size (by omega) (by omega)
  obtain ⟨W, hW⟩ : ∃ W, W = w.alloc (.cells (madeCells #[.int .u8 0] size) 5) := ⟨_, rfl⟩
  have hK0 : Kept (fun _ => False) w W := hW ▸ (Kept.refl _ w).alloc _
  have hD : D < w.heap.size := hbox.lt
  have hfl := fill16 D w.heap.size size K c B A s W m hm hK hs hz (hK0.rowIs hbox (fun x => x)) (hw.kept hK0 (fun _ _ x => x)) (hW ▸ World.rowIs_made w (.int .u8 0) size 5) (fun e => by
    rcases hw with ⟨_, e2⟩ | ⟨g, cap, f, e2, _, _, _, hr, _⟩
    · rw [e2] at e; cases e
    · rw [e2] at e
      have := hr.lt
      simp [Value.ownBlock] at e
      omega) (by omega)
  rw [hW] at hfl
  have FL : Hid (Calls Yba.prog 16 #[.pointer (some ⟨D, 0, none⟩), .slice (some ⟨w.heap.size, 0, none⟩) size size] (w.alloc (.cells (madeCells #[.int .u8 0] size) 5)) fun e w' => e = .returned (.slice (some ⟨w.heap.size, 0, none⟩) size size) ∧ Hid (w'.rowIs w.heap.size 5 size (fun x => .int .u8 (m (size - 1 - x) : Nat)) ∧ Kept (fun _ => False) w w')) := hfl.mono (by
    rintro e w' ⟨rfl, h1, h2⟩
    refine ⟨rfl, h1.congr (fun x hx => ?_), ?_⟩
    · rw [laid]
      by_cases e : size ≤ x + 8 * K
      · rw [if_pos e]
      · rw [if_neg e, hn.1 (size - 1 - x) (by omega)]; rfl
    · have : Kept (fun k => k = w.heap.size) w w' := ((Kept.refl _ w).alloc _).trans h2
      exact this.fresh (Nat.le_refl _))
  have RV : Hid (∀ w2 : World, w2.rowIs w.heap.size 5 size (fun x => .int .u8 (m (size - 1 - x) : Nat)) → Calls Yba.prog 17 #[.slice (some ⟨w.heap.size, 0, none⟩) size size] w2 fun e w' => e = .returned (.tuple #[]) ∧ w'.rowIs w.heap.size 5 size (fun x => .int .u8 (m x : Nat)) ∧ Kept (fun k => k = w.heap.size) w2 w') := fun w2 h =>
    (rev17 w.heap.size size (fun x => m (size - 1 - x)) w2 hs h).mono (by
      rintro e w' ⟨rfl, h1, h2⟩
      refine ⟨rfl, h1.congr (fun x hx => ?_), h2⟩
      rw [show size - 1 - (size - 1 - x) = x by omega])
  have hs' : (size : Int) ≤ 2000000 := by omega
  clear hfl hW hK0 hm hz hn hbox hw hD W
  go_enter Yba.func6, Yba.ntmps6
  go_wp2_with (first | (go_at_call 16; refine FL.out.mono ?_; rintro e w2 ⟨rfl, HX⟩) | (go_at_call 17; refine (RV.out _ HX.out.1).mono ?_; rintro e w3 ⟨rfl, h1, h2⟩))
  go_ret
  refine ⟨rfl, h1, ?_⟩
  have : Kept (fun k => k = w.heap.size) w w3 := (HX.out.2.mono (fun _ e => False.elim e)).trans h2
  exact this.fresh (Nat.le_refl _)
end Go.Proofs.Ybulkdkma.N
