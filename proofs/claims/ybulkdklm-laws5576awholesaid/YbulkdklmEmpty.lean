/-
  (*elementIndex).put on an empty index; the same pointer is equal to itself.
-/
import Derived.Test.YbulkdklmBuild
import Derived.LaidEqlPtr
namespace Go.Proofs.Ybulkdklm.E
open Go.RowKit Go.Deep
set_option linter.unusedVariables false

theorem has38 : (Yba.prog.info? 38).isSome = true := by kernel_rfl
theorem eql_same29 (W : World) (a : Addr) : (binOp .eql 29 (.pointer (some a)) (.pointer (some a))).run Yba.prog W = .ok (.bool true) W := by
  obtain ⟨j, hj⟩ := Option.isSome_iff_exists.1 has38
  exact run_eql_ptr_same W a Yba.underlying29 hj
theorem neq_same29 (W : World) (a : Addr) : (binOp .neq 29 (.pointer (some a)) (.pointer (some a))).run Yba.prog W = .ok (.bool false) W := by
  obtain ⟨j, hj⟩ := Option.isSome_iff_exists.1 has38
  have h : ∀ d : Nat, (Op.equalIn (d + 1) 29 (.pointer (some a)) (.pointer (some a))).run Yba.prog W = .ok true W := fun d => by
    simp [Op.equalIn, run_underlying Yba.underlying29, sizeOf, typeInfo, hj, run_sameAddr_same]
  simp only [binOp]
  simp [Op.equal, Op.maxDepth, h 9999]

/-- The index behind put on an empty one. -/
abbrev oneIn (w : World) (D s : Nat) : World := ((w.setCell ⟨D, 0, none⟩ (.slice (some ⟨w.heap.size + 1, 0, none⟩) 1 1)).alloc (.cells #[ptr s] 29)).alloc (.cells #[.slice (some ⟨w.heap.size, 0, none⟩) 1 1] 27)

theorem put_empty (w : World) (D s : Nat) (p i : Int) (A : Option Addr) (c : Nat) (h : w.rowIs D 26 1 (fun _ => .slice A 0 c)) :
    Calls Yba.prog 4 #[.pointer (some ⟨D, 0, none⟩), .int .i64 p, .int .i64 i, ptr s] w fun e w' => e = .returned (.tuple #[]) ∧ w' = oneIn w D s := by
  have d0 : w.cell? ⟨D, 0, none⟩ = some (.slice A 0 c) := h.cell (by omega)
  have f0 : w.frozen? ⟨D, 0, none⟩ = false := h.frozen 0
  have hD : D < w.heap.size := h.lt
  clear h
  go_enter Yba.func4, Yba.ntmps4
  go_wp2_with fail
  (try simp only [Exit.inBlock, Exit.then]); refine bodyPost_ret (results_none rfl _ _ _) rfl ?_
  exact ⟨rfl, rfl⟩

theorem put_empty2 (w : World) (D s : Nat) (p i : Int) (A : Option Addr) (c : Nat) (h : w.rowIs D 26 1 (fun _ => .slice A 0 c)) :
    Calls Yba.prog 4 #[.pointer (some ⟨D, 0, none⟩), .int .i64 p, .int .i64 i, ptr s] w fun e w' => ∃ g1 g2, e = .returned (.tuple #[]) ∧ w'.cell? ⟨D, 0, none⟩ = some (.slice (some ⟨g1, 0, none⟩) 1 1) ∧
      w'.cell? ⟨g1, 0, none⟩ = some (.slice (some ⟨g2, 0, none⟩) 1 1) ∧ w'.cell? ⟨g2, 0, none⟩ = some (ptr s) ∧ Hid (Kept (fun k => k = D) w w') := by
  refine (put_empty w D s p i A c h).mono ?_
  rintro e w' ⟨rfl, rfl⟩
  have hw : (w.setCell ⟨D, 0, none⟩ (.slice (some ⟨w.heap.size + 1, 0, none⟩) 1 1)).heap.size = w.heap.size := by simp
  have r1 := World.rowIs_alloc (w.setCell ⟨D, 0, none⟩ (.slice (some ⟨w.heap.size + 1, 0, none⟩) 1 1)) #[ptr s] 29 (fun _ => ptr s) (fun i hi => by
    have : i = 0 := by simpa using hi
    subst this; rfl)
  rw [hw] at r1
  have hw2 : ((w.setCell ⟨D, 0, none⟩ (.slice (some ⟨w.heap.size + 1, 0, none⟩) 1 1)).alloc (.cells #[ptr s] 29)).heap.size = w.heap.size + 1 := by simp
  have r2 := World.rowIs_alloc ((w.setCell ⟨D, 0, none⟩ (.slice (some ⟨w.heap.size + 1, 0, none⟩) 1 1)).alloc (.cells #[ptr s] 29)) #[.slice (some ⟨w.heap.size, 0, none⟩) 1 1] 27 (fun _ => .slice (some ⟨w.heap.size, 0, none⟩) 1 1) (fun i hi => by
    have : i = 0 := by simpa using hi
    subst this; rfl)
  rw [hw2] at r2
  refine ⟨w.heap.size + 1, w.heap.size, rfl, ?_, r2.cell (i := 0) (by simp), (r1.alloc _).cell (i := 0) (by simp), ?_⟩
  · have := (((h.set 0 (.slice (some ⟨w.heap.size + 1, 0, none⟩) 1 1)).alloc (.cells #[ptr s] 29)).alloc (.cells #[.slice (some ⟨w.heap.size, 0, none⟩) 1 1] 27)).cell (i := 0) (by omega)
    rw [this, if_pos rfl]
  · exact ((Kept.setCell (p := fun k => k = D) (Kept.refl _ w) (x := ⟨D, 0, none⟩) rfl _).alloc _).alloc _
end Go.Proofs.Ybulkdklm.E
