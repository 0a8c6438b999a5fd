/-
  (math/big.nat).setBytes (function 14), from nothing.
-/
import Derived.Test.YbulkdkmaNorm
namespace Go.Proofs.Ybulkdkma.N
open Go.RowKit Go.Deep
set_option linter.unusedVariables false

theorem Kept.fresh {w w' : World} {G : Nat} (h : Kept (fun k => k = G) w w') (hG : w.heap.size ≤ G) : Kept (fun _ => False) w w' :=
  ⟨h.os, h.tape, h.output, h.size, fun k hk _ => h.block k hk (by omega)⟩

theorem or_shl (t X D : Nat) (ht : t < 7) (hX : X < 256) (hD : D < 256 ^ t) : bits BinOp.or IntKind.u64 (D : Int) (IntKind.u64.wrap (IntKind.u64.wrap (X : Int) * 2 ^ (8 * t))) = ((D + X * 256 ^ t : Nat) : Int) := by
  have h1 : IntKind.u64.wrap (X : Int) = X := wraps_u64 _ (by omega) (by omega)
  rw [h1]
  match t, ht with
  | 0, _ =>
    have hD0 : D = 0 := by simp at hD; exact hD
    subst hD0
    have h2 : IntKind.u64.wrap ((X : Int) * 2 ^ (8 * 0)) = X := by rw [wraps_u64 _ (by omega) (by omega)]; omega
    rw [h2]
    have h3 : (X : Int) % 2 ^ IntKind.u64.bits = X := by simp [IntKind.bits]; omega
    simp [bits, h3, h1]
  | 1, _ =>
    rw [wraps_u64 _ (by omega) (by omega)]
    simp (disch := omega) only [u64_or8]
    omega
  | 2, _ =>
    rw [wraps_u64 _ (by omega) (by omega)]
    simp (disch := omega) only [u64_or16]
    omega
  | 3, _ =>
    rw [wraps_u64 _ (by omega) (by omega)]
    simp (disch := omega) only [u64_or24]
    omega
  | 4, _ =>
    rw [wraps_u64 _ (by omega) (by omega)]
    simp (disch := omega) only [u64_or32]
    omega
  | 5, _ =>
    rw [wraps_u64 _ (by omega) (by omega)]
    simp (disch := omega) only [u64_or40]
    omega
  | 6, _ =>
    rw [wraps_u64 _ (by omega) (by omega)]
    simp (disch := omega) only [u64_or48]
    omega

set_option maxHeartbeats 4000000 in
set_option maxRecDepth 100000 in
theorem set14 (a : Addr) (n cap0 : Nat) (w : World) (m : Nat → Nat) (hn : 0 < n) (hn2 : n ≤ 1048576) (hc : n ≤ cap0) (hc2 : cap0 ≤ 9223372036854775807) (hm : ∀ u, m u < 256) (hz : ∀ u, n ≤ u → m u = 0)
    (hcell : ∀ u, u < n → w.cell? (a.add (n - 1 - u)) = some (.int .u8 (m u : Nat))) :
    Calls Yba.prog 14 #[.slice none 0 0, .slice (some a) n cap0] w fun e w' => ∃ v K, e = .returned v ∧ Wd w' w.heap.size v m K ∧ Norm m K ∧ Kept (fun _ => False) w w' := by
  obtain ⟨nw, hnw⟩ : ∃ nw, nw = (n + 7) / 8 := ⟨_, rfl⟩
  have hnw1 : 8 * nw ≤ n + 7 ∧ n ≤ 8 * nw := by omega
  have hq : ((n : Int) + 8 - 1).tdiv 8 = (nw : Int) := by
    rw [Int.tdiv_eq_ediv_of_nonneg (by omega)]; omega
  have MK : Hid (Calls Yba.prog 19 #[.slice none 0 0, .int .i64 nw] w fun e w' => ∃ cap, nw ≤ cap ∧ cap ≤ 300000 ∧ e = .returned (.slice (some ⟨w.heap.size, 0, none⟩) nw cap) ∧ w' = w.alloc (.cells (madeCells #[.int .u64 0] cap) 39)) := (make19 nw (by omega) w).mono (by
    rintro e w' (⟨h0, _⟩ | ⟨_, h⟩)
    · omega
    · exact h)
  have HC : Hid (∀ u, u < n → w.cell? (a.add (n - 1 - u)) = some (.int .u8 (m u : Nat))) := hcell
  have HM : Hid (∀ u, m u < 256) := hm
  have HZ : Hid (∀ u, n ≤ u → m u = 0) := hz
  have HNW : Hid (nw = (n + 7) / 8) := hnw
  clear hcell hm hz hnw
  go_enter Yba.func14, Yba.ntmps14
  go_wp2_with (go_at_call 19; refine MK.out.mono ?_; rintro e w1 ⟨cap, hcap1, hcap2, rfl, rfl⟩)
  clear MK hq
  go_loopg [5, 6] n (fun g i k wr => ∃ q : Nat, 8 * q ≤ n ∧ g = n - 8 * q ∧ i = .int .i64 ((n - 8 * q : Nat) : Int) ∧ k = .int .i64 q ∧ wr.rowIs w.heap.size 39 cap (fun x => if x < q then .int .u64 (word m x : Nat) else .int .u64 0) ∧ Kept (fun x => x = w.heap.size) w wr)
  case atStart =>
    exact ⟨0, by omega, rfl, rfl, rfl, (World.rowIs_made w (.int .u64 0) cap 39).congr (fun i _ => by rw [if_neg (by omega)]), (Kept.refl _ w).alloc _⟩
  case round =>
    obtain ⟨q, hq, rfl, rfl, rfl, hrow, hkp⟩ := hrel
    obtain ⟨w2, rfl⟩ : ∃ w2, w2 = wr := ⟨_, rfl⟩
    obtain ⟨i, hi⟩ : ∃ i, i = n - 8 * q := ⟨_, rfl⟩
    rw [← hi]
    by_cases h8 : 8 ≤ i
    · obtain ⟨j, rfl⟩ : ∃ j, i = j + 8 := ⟨i - 8, by omega⟩
      have hjz : (8 : Int) ≤ ((j + 8 : Nat) : Int) := by omega
      have hjn : ((j + 8 : Nat) : Int) ≤ (n : Int) := by omega
      have hjc : ((j + 8 : Nat) : Int) ≤ (cap0 : Int) := by omega
      have BW : Hid (∀ c, Calls Yba.prog 20 #[.slice (some (a.add j)) 8 c] w2 fun e w' => e = .returned (.int .u64 (word m q : Nat)) ∧ ∃ t, w' = w2.drewN t) := fun c =>
        bew a j c w2 m (8 * q) HM.out (fun x hx => by
          have := HC.out (8 * q + 7 - x) (by omega)
          rw [show n - 1 - (8 * q + 7 - x) = j + x by omega] at this
          rw [World.cell?_of_block (w := w) (hkp.block _ (World.block_lt_of_cell? _ _ this) (fun e => by
            have := World.block_lt_of_cell? _ _ this
            omega))]
          exact this)
      have hqnz : (q : Int) < (nw : Int) := by omega
      have c1 : w2.cell? ⟨w.heap.size, q, none⟩ = some (.int .u64 0) := by rw [hrow.cell (by omega), if_neg (by omega)]
      have f1 : w2.frozen? ⟨w.heap.size, q, none⟩ = false := hrow.frozen q
      have HR : Hid (w2.rowIs w.heap.size 39 cap (fun x => if x < q then .int .u64 (word m x : Nat) else .int .u64 0) ∧ Kept (fun x => x = w.heap.size) w w2) := ⟨hrow, hkp⟩
      have HI : Hid (j + 8 = n - 8 * q) := hi
      clear hrow hkp hi
      go_wp2_with (go_at_call 20; refine (BW.out _).mono ?_; rintro e w3 ⟨rfl, t, rfl⟩)
      go_roundg (n - 8 * (q + 1))
      case measure => go_light; have := HI.out; omega
      case rel =>
        go_light
        have hI := HI.out
        refine ⟨q + 1, by omega, rfl, ?_, by simp, ?_, ?_⟩
        · rw [show n - 8 * (q + 1) = j by omega]
        · refine ((show (w2.drewN t).rowIs w.heap.size 39 cap _ from HR.out.1).set q _).congr (fun x _ => ?_)
          by_cases e : x = q
          · subst e; rw [if_pos rfl, if_pos (by omega)]
          · rw [if_neg e]
            by_cases e2 : x < q
            · rw [if_pos e2, if_pos (by omega)]
            · rw [if_neg e2, if_neg (by omega)]
        · exact Kept.setCell (p := fun x => x = w.heap.size) (HR.out.2.drewN t) (x := ⟨w.heap.size, q, none⟩) rfl _
    · have hend : ∀ (w3 : World), w3.rowIs w.heap.size 39 cap (fun x => if x < nw then .int .u64 (word m x : Nat) else .int .u64 0) → Kept (fun x => x = w.heap.size) w w3 →
          Calls Yba.prog 21 #[.slice (some ⟨w.heap.size, 0, none⟩) nw cap] w3 fun e w' => ∃ K, e = .returned (.slice (some ⟨w.heap.size, 0, none⟩) K cap) ∧ Hid (Wd w' w.heap.size (.slice (some ⟨w.heap.size, 0, none⟩) K cap) m K ∧ Norm m K ∧ Kept (fun _ => False) w w') := fun w3 hr3 hk3 =>
        (norm21 w3 w.heap.size nw cap _ (word m) hr3 (fun k hk => by rw [if_pos hk]) hcap1 hcap2).mono (by
          rintro e w' ⟨K, hK, rfl, hz1, hz2, rfl⟩
          refine ⟨K, rfl, Or.inr ⟨_, _, _, rfl, by omega, by omega, Nat.le_refl _, hr3, fun k hk => by rw [if_pos (by omega)]⟩, ⟨fun u hu => ?_, hz2⟩, hk3.fresh (Nat.le_refl _)⟩
          by_cases hu2 : u < 8 * nw
          · have h0 := hz1 (u / 8) (by omega) (by omega)
            have := le_zero 8 _ h0 (u % 8) (by omega)
            rwa [show 8 * (u / 8) + u % 8 = u by omega] at this
          · exact HZ.out u (by omega))
      have HEND : Hid (∀ (w3 : World), w3.rowIs w.heap.size 39 cap (fun x => if x < nw then .int .u64 (word m x : Nat) else .int .u64 0) → Kept (fun x => x = w.heap.size) w w3 →
          Calls Yba.prog 21 #[.slice (some ⟨w.heap.size, 0, none⟩) nw cap] w3 fun e w' => ∃ K, e = .returned (.slice (some ⟨w.heap.size, 0, none⟩) K cap) ∧ Hid (Wd w' w.heap.size (.slice (some ⟨w.heap.size, 0, none⟩) K cap) m K ∧ Norm m K ∧ Kept (fun _ => False) w w')) := hend
      clear hend
      have hiz : ¬ (8 : Int) ≤ (i : Int) := by omega
      by_cases hi0 : i = 0
      · have hnq : nw = q := by omega
        subst hnq
        have N21 := HEND.out w2 hrow hkp
        have HN : Hid (Calls _ _ _ _ _) := N21
        subst hi0
        clear N21 hrow hkp hi
        go_wp2_with (go_at_call 21; refine HN.out.mono ?_; rintro e w3 ⟨K, rfl, HX⟩)
        go_ret
        exact ⟨_, K, rfl, HX.out⟩
      · have hi1 : (0 : Int) < (i : Int) := by omega
        have hnq : nw = q + 1 := by omega
        subst hnq
        have HR : Hid (w2.rowIs w.heap.size 39 cap (fun x => if x < q then .int .u64 (word m x : Nat) else .int .u64 0) ∧ Kept (fun x => x = w.heap.size) w w2) := ⟨hrow, hkp⟩
        have HI : Hid (i = n - 8 * q) := hi
        clear hrow hkp hi
        go_wp2_with fail
        go_loopg [5, 7, 8] i (fun g x d sh wr => ∃ t : Nat, t ≤ i ∧ g = i - t ∧ x = .int .i64 ((i - t : Nat) : Int) ∧ d = .int .u64 (le m (8 * q) t : Nat) ∧ sh = .int .u64 ((8 * t : Nat) : Int) ∧ wr = w2)
        case atStart => exact ⟨0, by omega, rfl, rfl, rfl, rfl, rfl⟩
        case round =>
          obtain ⟨t, ht, rfl, rfl, rfl, rfl, rfl⟩ := hrel
          by_cases hlt : t < i
          · obtain ⟨y, hy⟩ : ∃ y, i - t = y + 1 := ⟨i - t - 1, by omega⟩
            rw [hy]
            have hyn : (y : Int) < (n : Int) := by have := HI.out; omega
            have cY : wr.cell? (a.add y) = some (.int .u8 (m (8 * q + t) : Nat)) := by
              have hI := HI.out
              have := HC.out (8 * q + t) (by omega)
              rw [show n - 1 - (8 * q + t) = y by omega] at this
              rw [World.cell?_of_block (w := w) (HR.out.2.block _ (World.block_lt_of_cell? _ _ this) (fun e => by
                have := World.block_lt_of_cell? _ _ this
                omega))]
              exact this
            go_wp2_with fail
            go_roundg (i - (t + 1))
            case measure => go_light; omega
            case rel =>
              go_light
              refine ⟨t + 1, by omega, rfl, ?_, ?_, ?_, rfl⟩
              · rw [show i - (t + 1) = y by omega]
              · have hl := le_lt HM.out t (8 * q)
                have hb := HM.out (8 * q + t)
                rw [le_succ]
                have ht7 : t < 7 := by omega
                obtain ⟨X, hX⟩ : ∃ X, X = m (8 * q + t) := ⟨_, rfl⟩
                obtain ⟨D, hD⟩ : ∃ D, D = le m (8 * q) t := ⟨_, rfl⟩
                rw [← hX, ← hD]
                rw [← hD] at hl
                rw [← hX] at hb
                clear hX hD
                exact congrArg (fun z => Value.int .u64 z) (or_shl t X D ht7 hb hl)
              · simp; omega
          · obtain rfl : t = i := by omega
            have hI := HI.out
            rw [Nat.sub_self]
            have hw : le m (8 * q) t = word m q := by
              have := le_more (m := m) (8 * q) t (8 - t) (fun j h1 h2 => HZ.out _ (by omega))
              rw [show t + (8 - t) = 8 by omega] at this
              rw [word, this]
            rw [hw]
            have c1 : wr.cell? ⟨w.heap.size, q, none⟩ = some (.int .u64 0) := by rw [HR.out.1.cell (by omega), if_neg (by omega)]
            have f1 : wr.frozen? ⟨w.heap.size, q, none⟩ = false := HR.out.1.frozen q
            have HN : Hid (Calls _ _ _ _ _) := HEND.out (wr.setCell ⟨w.heap.size, q, none⟩ (.int .u64 (word m q : Nat))) ((HR.out.1.set q _).congr (fun x _ => by
                by_cases e : x = q
                · subst e; rw [if_pos rfl, if_pos (by omega)]
                · rw [if_neg e]
                  by_cases e2 : x < q
                  · rw [if_pos e2, if_pos (by omega)]
                  · rw [if_neg e2, if_neg (by omega)])) (Kept.setCell (p := fun x => x = w.heap.size) HR.out.2 (x := ⟨w.heap.size, q, none⟩) rfl _)
            clear hI hw
            go_wp2_with (go_at_call 21; refine HN.out.mono ?_; rintro e w3 ⟨K, rfl, HX⟩)
            go_ret
            exact ⟨_, K, rfl, HX.out⟩
end Go.Proofs.Ybulkdkma.N
