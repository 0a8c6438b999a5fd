/-
  slices.Reverse at []byte (function 17).
-/
import Derived.Test.YbulkdkmaInt
namespace Go.Proofs.Ybulkdkma.N
open Go.RowKit Go.Deep
set_option linter.unusedVariables false

/-- The row behind t exchanges. -/
def turned (V : Nat → Nat) (size t : Nat) (x : Nat) : Value := .int .u8 ((if x < t ∨ size ≤ x + t then V (size - 1 - x) else V x : Nat) : Int)

theorem turned_lo (V : Nat → Nat) (size t : Nat) (h : t < size - 1 - t) : turned V size t t = .int .u8 (V t : Nat) := by
  rw [turned, if_neg (by omega)]
theorem turned_hi (V : Nat → Nat) (size t : Nat) (h : t < size - 1 - t) : turned V size t (size - 1 - t) = .int .u8 (V (size - 1 - t) : Nat) := by
  rw [turned, if_neg (by omega)]
theorem turned_step (V : Nat → Nat) (size t : Nat) (h : t < size - 1 - t) (x : Nat) (hx : x < size) :
    (if x = t then Value.int .u8 (V (size - 1 - t) : Nat) else if x = size - 1 - t then .int .u8 (V t : Nat) else turned V size t x) = turned V size (t + 1) x := by
  unfold turned
  by_cases e1 : x = t
  · subst e1; rw [if_pos rfl, if_pos (by omega)]
  · rw [if_neg e1]
    by_cases e2 : x = size - 1 - t
    · rw [if_pos e2, if_pos (by omega), show size - 1 - x = t by omega]
    · rw [if_neg e2]
      by_cases e3 : x < t ∨ size ≤ x + t
      · rw [if_pos e3, if_pos (by omega)]
      · rw [if_neg e3, if_neg (by omega)]
theorem turned_end (V : Nat → Nat) (size t : Nat) (h : ¬ t < size - 1 - t) (x : Nat) (hx : x < size) : turned V size t x = .int .u8 (V (size - 1 - x) : Nat) := by
  unfold turned
  by_cases e3 : x < t ∨ size ≤ x + t
  · rw [if_pos e3]
  · rw [if_neg e3, show size - 1 - x = x by omega]

set_option maxHeartbeats 4000000 in
set_option maxRecDepth 100000 in
theorem rev17 (b size : Nat) (V : Nat → Nat) (w : World) (hs : size ≤ 2000000) (hb : w.rowIs b 5 size (fun x => .int .u8 (V x : Nat))) :
    Calls Yba.prog 17 #[.slice (some ⟨b, 0, none⟩) size size] w fun e w' => e = .returned (.tuple #[]) ∧ w'.rowIs b 5 size (fun x => .int .u8 (V (size - 1 - x) : Nat)) ∧ Kept (fun k => k = b) w w' := by
  have HB : Hid (w.rowIs b 5 size (fun x => .int .u8 (V x : Nat))) := hb
  clear hb
  go_enter Yba.func17, Yba.ntmps17
  go_wp2_with fail
  go_loopg [2, 3] size (fun g i j wr => ∃ t : Nat, 2 * t ≤ size + 1 ∧ g = size - t ∧ i = .int .i64 t ∧ j = .int .i64 ((size : Int) - 1 - (t : Int)) ∧ wr.rowIs b 5 size (turned V size t) ∧ Kept (fun k => k = b) w wr)
  case atStart => exact ⟨0, by omega, rfl, rfl, by simp, HB.out.congr (fun x hx => by rw [turned, if_neg (by omega)]), Kept.refl _ _⟩
  case round =>
    obtain ⟨t, ht, rfl, rfl, rfl, hrow, hkp⟩ := hrel
    obtain ⟨w1, rfl⟩ : ∃ w1, w1 = wr := ⟨_, rfl⟩
    by_cases hlt : t < size - 1 - t
    · obtain ⟨y, hy⟩ : ∃ y, y = size - 1 - t := ⟨_, rfl⟩
      rw [show ((size : Int) - 1 - (t : Int)) = (y : Int) by omega]
      have h1 : (t : Int) < (y : Int) := by omega
      have h2 : (y : Int) < (size : Int) := by omega
      have h3 : (t : Int) < (size : Int) := by omega
      have hne : t ≠ y := by omega
      have hne' : y ≠ t := by omega
      obtain ⟨P, hP⟩ : ∃ P, P = V t := ⟨_, rfl⟩
      obtain ⟨Q, hQ⟩ : ∃ Q, Q = V y := ⟨_, rfl⟩
      have c1 : w1.cell? ⟨b, t, none⟩ = some (.int .u8 (P : Nat)) := by rw [hrow.cell (by omega), turned_lo V size t hlt, hP]
      have c2 : w1.cell? ⟨b, y, none⟩ = some (.int .u8 (Q : Nat)) := by rw [hrow.cell (by omega), hy, turned_hi V size t hlt, hQ, hy]
      have f1 : w1.frozen? ⟨b, t, none⟩ = false := hrow.frozen t
      have f2 : w1.frozen? ⟨b, y, none⟩ = false := hrow.frozen y
      have HR : Hid (w1.rowIs b 5 size (turned V size t) ∧ Kept (fun k => k = b) w w1 ∧ y = size - 1 - t ∧ P = V t ∧ Q = V y) := ⟨hrow, hkp, hy, hP, hQ⟩
      clear hrow hkp hy hP hQ
      go_wp2_with fail
      go_region
      all_goals go_wp2_with fail
      go_roundg (size - (t + 1))
      case measure => go_light; omega
      case rel =>
        go_light
        obtain ⟨hrow, hkp, hy, hP, hQ⟩ := HR.out
        refine ⟨t + 1, by omega, rfl, by simp, ?_, ?_, ?_⟩
        · rw [show ((size : Int) - 1 - ((t + 1 : Nat) : Int)) = (y : Int) - 1 by omega]
        · have h5 : ((w1.setCell ⟨b, t, none⟩ (.int .u8 (Q : Nat))).setCell ⟨b, y, none⟩ (.int .u8 (P : Nat))).rowIs b 5 size (turned V size (t + 1)) :=
            ((hrow.set t _).set y _).congr (fun x hx => by
              rw [← turned_step V size t hlt x hx, hP, hQ, hy]
              by_cases e1 : x = size - 1 - t
              · rw [if_pos e1, if_neg (by omega), if_pos e1]
              · rw [if_neg e1]
                by_cases e2 : x = t
                · rw [if_pos e2, if_pos e2]
                · rw [if_neg e2, if_neg e2, if_neg e1])
          exact h5
        · exact (Kept.setCell (p := fun k => k = b) (Kept.setCell (p := fun k => k = b) hkp (x := ⟨b, t, none⟩) rfl _) (x := ⟨b, y, none⟩) rfl _).drew
    · have h1 : ¬ (t : Int) < (size : Int) - 1 - (t : Int) := by omega
      have HR : Hid (w1.rowIs b 5 size (turned V size t) ∧ Kept (fun k => k = b) w w1) := ⟨hrow, hkp⟩
      clear hrow hkp
      go_wp2_with fail
      go_end0
      exact ⟨rfl, HR.out.1.congr (fun x hx => turned_end V size t hlt x hx), HR.out.2⟩
end Go.Proofs.Ybulkdkma.N
