/-
  (math/big.nat).bytes (function 23).
-/
import Derived.Test.YbulkdkmaInt
namespace Go.Proofs.Ybulkdkma.N
open Go.RowKit Go.Deep
set_option linter.unusedVariables false

/-- The buffer behind T bytes laid, the last first. -/
def laid (m : Nat → Nat) (size T : Nat) (x : Nat) : Value := if size ≤ x + T then .int .u8 (m (size - 1 - x) : Nat) else .int .u8 0

set_option maxHeartbeats 4000000 in
set_option maxRecDepth 100000 in
theorem bytes23 (b size K c B : Nat) (A : Option Addr) (w : World) (m : Nat → Nat) (hm : ∀ u, m u < 256) (hK : K ≤ 300000) (hs : size ≤ 2000000) (hz : ∀ u, size ≤ u → m u = 0) (hw : Wd w B (.slice A K c) m K) (hb : w.rowIs b 5 size (fun _ => .int .u8 0)) (hne : (Value.slice A K c).ownBlock ≠ some b) :
    Calls Yba.prog 23 #[.slice A K c, .slice (some ⟨b, 0, none⟩) size size] w fun e w' => ∃ i, e = .returned (.int .i64 i) ∧ w'.rowIs b 5 size (laid m size (8 * K)) ∧ Kept (fun k => k = b) w w' := by
  have HH : Hid (Wd w B (.slice A K c) m K ∧ w.rowIs b 5 size (fun _ => .int .u8 0) ∧ (Value.slice A K c).ownBlock ≠ some b ∧ (∀ u, m u < 256) ∧ ∀ u, size ≤ u → m u = 0) := ⟨hw, hb, hne, hm, hz⟩
  clear hw hb hne hm hz
  go_enter Yba.func23, Yba.ntmps23
  go_wp2_with fail
  go_loopg [4, 12] K (fun g i x wr => ∃ k : Nat, k ≤ K ∧ g = K - k ∧ i = .int .i64 ((size : Int) - ((8 * k : Nat) : Int)) ∧ x = .int .i64 k ∧ wr.rowIs b 5 size (laid m size (8 * k)) ∧ Kept (fun k => k = b) w wr)
  case atStart => exact ⟨0, by omega, rfl, by simp, rfl, HH.out.2.1.congr (fun x hx => by rw [laid, if_neg (by omega)]), Kept.refl _ w⟩
  case round =>
    obtain ⟨k, hk, rfl, rfl, rfl, hrow, hkp⟩ := hrel
    obtain ⟨w1, rfl⟩ : ∃ w1, w1 = wr := ⟨_, rfl⟩
    by_cases hlt : k < K
    · have hltz : (k : Int) < (K : Int) := by omega
      rcases HH.out.1.kept hkp (fun x e e2 => HH.out.2.2.1 (e2 ▸ e)) with ⟨e, _⟩ | ⟨g, cap, f, e, h1, h2, hg, hr, hf⟩
      · omega
      · cases e
        have cW : w1.cell? ⟨g, k, none⟩ = some (.int .u64 (le m (8 * k) 8 : Nat)) := by rw [hr.cell (by omega), hf k hlt]; rfl
        have HR : Hid (w1.rowIs b 5 size (laid m size (8 * k)) ∧ Kept (fun k => k = b) w w1) := ⟨hrow, hkp⟩
        clear hrow hkp hr hf
        go_wp2_with fail
        go_loopg [4, 6, 7] 8 (fun g i d jj wr => ∃ j : Nat, j ≤ 8 ∧ g = 8 - j ∧ i = .int .i64 ((size : Int) - ((8 * k + j : Nat) : Int)) ∧ d = .int .u64 (le m (8 * k + j) (8 - j) : Nat) ∧ jj = .int .i64 j ∧ wr.rowIs b 5 size (laid m size (8 * k + j)) ∧ Kept (fun k => k = b) w wr)
        case atStart => exact ⟨0, by omega, rfl, by simp, rfl, rfl, HR.out⟩
        case round =>
          obtain ⟨j, hj, rfl, rfl, rfl, rfl, hrow, hkp⟩ := hrel
          obtain ⟨w2, rfl⟩ : ∃ w2, w2 = wr := ⟨_, rfl⟩
          by_cases hj8 : j < 8
          · have hjz : (j : Int) < 8 := by omega
            obtain ⟨T, hT⟩ : ∃ T, T = 8 * k + j := ⟨_, rfl⟩
            obtain ⟨e, he⟩ : ∃ e, 8 - j = e + 1 := ⟨7 - j, by omega⟩
            have HT : Hid (T = 8 * k + j ∧ 8 - j = e + 1) := ⟨hT, he⟩
            rw [← hT] at hrow ⊢
            rw [he]
            have hTb : T ≤ 3000000 := by omega
            have hbyte : IntKind.u8.wrap ((le m T (e + 1) : Nat) : Int) = (m T : Int) := by
              have := HH.out.2.2.2.1 T
              rw [le, IntKind.wrap_u8]; omega
            have hdiv : ((le m T (e + 1) : Nat) : Int) / 256 = (le m (T + 1) e : Nat) := by
              have := HH.out.2.2.2.1 T
              rw [le]; omega
            clear hT he
            by_cases hin : T < size
            · obtain ⟨y, hy⟩ : ∃ y, size = T + 1 + y := ⟨size - (T + 1), by omega⟩
              have hyz : (y : Int) < (size : Int) := by omega
              rw [show ((size : Int) - (T : Int)) = ((y + 1 : Nat) : Int) by omega]
              have cB : w2.cell? ⟨b, y, none⟩ = some (.int .u8 0) := by rw [hrow.cell (by omega), laid, if_neg (by omega)]
              have fB : w2.frozen? ⟨b, y, none⟩ = false := hrow.frozen y
              have HR2 : Hid (w2.rowIs b 5 size (laid m size T) ∧ Kept (fun k => k = b) w w2) := ⟨hrow, hkp⟩
              have HY : Hid (size = T + 1 + y) := hy
              clear hrow hkp hy HR
              go_wp2_with fail
              go_roundg (8 - (j + 1))
              case measure => go_light; omega
              case rel =>
                go_light
                have hTT := HT.out
                have hYY := HY.out
                refine ⟨j + 1, by omega, rfl, ?_, ?_, by simp, ?_, ?_⟩
                · rw [show ((size : Int) - ((8 * k + (j + 1) : Nat) : Int)) = (y : Int) by omega]
                · rw [show 8 * k + (j + 1) = T + 1 by omega, show 8 - (j + 1) = e by omega]
                · rw [show 8 * k + (j + 1) = T + 1 by omega]
                  refine (HR2.out.1.set y _).congr (fun x hx => ?_)
                  by_cases ex : x = y
                  · subst ex
                    rw [if_pos rfl, laid, if_pos (by omega), show size - 1 - x = T by omega]
                  · rw [if_neg ex, laid, laid]
                    by_cases e2 : size ≤ x + T
                    · rw [if_pos e2, if_pos (by omega)]
                    · rw [if_neg e2, if_neg (by omega)]
                · exact Kept.setCell (p := fun k => k = b) HR2.out.2 (x := ⟨b, y, none⟩) rfl _
            · have hm0 : m T = 0 := HH.out.2.2.2.2 T (by omega)
              rw [hm0] at hbyte
              have hneg : ¬ (0 : Int) ≤ (size : Int) - (T : Int) - 1 := by omega
              have HR2 : Hid (w2.rowIs b 5 size (laid m size T) ∧ Kept (fun k => k = b) w w2) := ⟨hrow, hkp⟩
              have HM0 : Hid (m T = 0) := hm0
              clear hrow hkp HR hm0
              go_wp2_with fail
              go_roundg (8 - (j + 1))
              case measure => go_light; omega
              case rel =>
                go_light
                have hTT := HT.out
                refine ⟨j + 1, by omega, rfl, ?_, ?_, by simp, ?_, HR2.out.2⟩
                · rw [show ((size : Int) - ((8 * k + (j + 1) : Nat) : Int)) = (size : Int) - (T : Int) - 1 by omega]
                · rw [show 8 * k + (j + 1) = T + 1 by omega, show 8 - (j + 1) = e by omega]
                · rw [show 8 * k + (j + 1) = T + 1 by omega]
                  refine HR2.out.1.congr (fun x hx => ?_)
                  rw [laid, laid, if_pos (by omega), if_pos (by omega)]
          · obtain rfl : j = 8 := by omega
            have HR2 : Hid (w2.rowIs b 5 size (laid m size (8 * k + 8)) ∧ Kept (fun k => k = b) w w2) := ⟨hrow, hkp⟩
            clear hrow hkp HR
            go_wp2_with fail
            go_roundg (K - (k + 1))
            case measure => go_light; omega
            case rel =>
              go_light
              refine ⟨k + 1, by omega, rfl, ?_, by simp, ?_, HR2.out.2⟩
              · rw [show 8 * (k + 1) = 8 * k + 8 by omega]
              · rw [show 8 * (k + 1) = 8 * k + 8 by omega]; exact HR2.out.1
    · obtain rfl : k = K := by omega
      have HR : Hid (w1.rowIs b 5 size (laid m size (8 * k)) ∧ Kept (fun k => k = b) w w1) := ⟨hrow, hkp⟩
      have cX : ∀ x, x < size → ∃ z : Int, w1.cell? ⟨b, x, none⟩ = some (.int .u8 z) := fun x hx => by
        rw [hrow.cell hx, laid]
        split
        · exact ⟨_, rfl⟩
        · exact ⟨_, rfl⟩
      have CX : Hid (∀ x, x < size → ∃ z : Int, w1.cell? ⟨b, x, none⟩ = some (.int .u8 z)) := cX
      clear hrow hkp cX
      by_cases hin : 8 * k ≤ size
      · obtain ⟨y, hy⟩ : ∃ y, size = 8 * k + y := ⟨size - 8 * k, by omega⟩
        have hyb : y ≤ size := by omega
        rw [show ((size : Int) - ((8 * k : Nat) : Int)) = (y : Int) by omega]
        clear hy
        go_wp2_with fail
        go_loopg [4] (size - y) (fun g i wr => ∃ x : Nat, x ≤ size ∧ g = size - x ∧ i = .int .i64 x ∧ wr = w1)
        case atStart => exact ⟨y, by omega, rfl, rfl, rfl⟩
        case round =>
          obtain ⟨x, hx, rfl, rfl, rfl⟩ := hrel
          by_cases hxs : x < size
          · have hxz : (x : Int) < (size : Int) := by omega
            obtain ⟨z, hz⟩ := CX.out x hxs
            by_cases hz0 : z = 0
            · subst hz0
              go_wp2_with fail
              go_roundg (size - (x + 1))
              case measure => go_light; omega
              case rel => go_light; exact ⟨x + 1, by omega, rfl, by simp, rfl⟩
            · have hzz : (z == 0) = false := by simp; omega
              go_wp2_with fail
              go_ret
              exact ⟨_, rfl, HR.out⟩
          · obtain rfl : x = size := by omega
            go_wp2_with fail
            go_ret
            exact ⟨_, rfl, HR.out⟩
      · have hneg : (size : Int) - ((8 * k : Nat) : Int) < 0 := by omega
        obtain ⟨Y, hY⟩ : ∃ Y : Int, Y = (size : Int) - ((8 * k : Nat) : Int) := ⟨_, rfl⟩
        rw [← hY] at hneg ⊢
        have hYb : -9223372036854775808 ≤ Y := by omega
        clear hY
        go_wp2_with fail
        go_loopg [4] size (fun g i wr => ∃ x : Nat, x ≤ size ∧ g = size - x ∧ i = .int .i64 x ∧ wr = w1)
        case atStart => exact ⟨0, by omega, rfl, rfl, rfl⟩
        case round =>
          obtain ⟨x, hx, rfl, rfl, rfl⟩ := hrel
          by_cases hxs : x < size
          · have hxz : (x : Int) < (size : Int) := by omega
            obtain ⟨z, hz⟩ := CX.out x hxs
            by_cases hz0 : z = 0
            · subst hz0
              go_wp2_with fail
              go_roundg (size - (x + 1))
              case measure => go_light; omega
              case rel => go_light; exact ⟨x + 1, by omega, rfl, by simp, rfl⟩
            · have hzz : (z == 0) = false := by simp; omega
              go_wp2_with fail
              go_ret
              exact ⟨_, rfl, HR.out⟩
          · obtain rfl : x = size := by omega
            go_wp2_with fail
            go_ret
            exact ⟨_, rfl, HR.out⟩
end Go.Proofs.Ybulkdkma.N
