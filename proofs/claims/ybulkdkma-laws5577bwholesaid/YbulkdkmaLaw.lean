/-
  The law's walk.
-/
import Derived.Test.YbulkdkmaCmp
import Derived.Test.YbulkdkmaLeb
import Derived.Deep.CutBlock
import Derived.Deep.DeepCutAuto
namespace Go.Proofs.Ybulkdkma.N
open Go.RowKit Go.Deep
set_option linter.unusedVariables false

theorem Norm.bound {m : Nat → Nat} {K n : Nat} (h : Norm m K) (hz : ∀ u, n ≤ u → m u = 0) : 8 * K ≤ n + 8 := by
  rcases h.2 with e | e
  · omega
  · by_cases h8 : 8 * K ≤ n + 8
    · exact h8
    · exact absurd (zero_le' 8 _ (fun j hj => hz _ (by omega))) e

/-- A number that the law has made. -/
structure One (W w : World) (D : Nat) (s : Bool) (A : Option Addr) (K c : Nat) (m : Nat → Nat) : Prop where
  base : Below W.heap.size W w
  room : W.heap.size ≤ D
  box : w.rowIs D 27 2 (fun i => if i = 0 then .bool s else .slice A K c)
  wd : Wd w W.heap.size (.slice A K c) m K
  far : (Value.slice A K c).ownBlock ≠ some D
  norm : Norm m K

theorem One.kept {W w w' : World} {D K c : Nat} {s : Bool} {A : Option Addr} {m : Nat → Nat} (h : One W w D s A K c m) (hk : Kept (fun _ => False) w w') : One W w' D s A K c m :=
  ⟨h.base.trans (hk.below h.base.size (fun _ e => False.elim e)), h.room, hk.rowIs h.box (fun x => x), h.wd.kept hk (fun _ _ x => x), h.far, h.norm⟩

theorem Wd.lower {w : World} {B B' : Nat} {v : Value} {m : Nat → Nat} {K : Nat} (h : Wd w B v m K) (hB : B' ≤ B) : Wd w B' v m K := by
  rcases h with h | ⟨g, cap, f, e, h1, h2, h3, h4⟩
  · exact Or.inl h
  · exact Or.inr ⟨g, cap, f, e, h1, h2, by omega, h4⟩

abbrev zeroInt : Obj := .cells #[.bool false, .slice none 0 0] 27

theorem new4 (W w : World) (hb : Below W.heap.size W w) (a0 : Option Addr) (n cap0 : Nat) (m : Nat → Nat) (hn2 : n ≤ 1048576) (hm : ∀ u, m u < 256) (hz : ∀ u, n ≤ u → m u = 0) (hB : Bytes W a0 n cap0 m) :
    Calls Yba.prog 4 #[.pointer (some ⟨w.heap.size, 0, none⟩), .slice a0 n cap0] (w.alloc zeroInt) fun e w' => e = .returned (.pointer (some ⟨w.heap.size, 0, none⟩)) ∧ ∃ A K c, One W w' w.heap.size false A K c m ∧ Kept (fun _ => False) w w' := by
  have hsz := hb.size
  have hk0 : Kept (fun k => k = w.heap.size) w (w.alloc zeroInt) := (Kept.refl _ w).alloc _
  have hr : (w.alloc zeroInt).rowIs w.heap.size 27 2 (fun i => if i = 0 then .bool false else .slice none 0 0) := World.rowIs_alloc w #[.bool false, .slice none 0 0] 27 _ (fun i hi => by
    match i, hi with
    | 0, _ => rfl
    | 1, _ => rfl)
  refine (sb4 w.heap.size n cap0 a0 (w.alloc zeroInt) m hr hn2 hm hz (hB.below (hb.alloc hsz _))).mono ?_
  rintro e w' ⟨rfl, A, K, c, h1, h2, h3, h4⟩
  have hk : Kept (fun _ => False) w w' := (hk0.trans h4).fresh (Nat.le_refl _)
  have hs1 : (w.alloc zeroInt).heap.size = w.heap.size + 1 := by simp
  rw [hs1] at h2
  exact ⟨rfl, A, K, c, ⟨hb.trans (hk.below hsz (fun _ e => False.elim e)), hsz, h1, h2.lower (by omega), fun e => by have := (h2.block e).1; omega, h3⟩, hk⟩

theorem neg_one {W w : World} {D K c : Nat} {A : Option Addr} {m : Nat → Nat} (h : One W w D false A K c m) (hK : K ≤ 300000) :
    Calls Yba.prog 5 #[.pointer (some ⟨D, 0, none⟩), .pointer (some ⟨D, 0, none⟩)] w fun e w' => e = .returned (.pointer (some ⟨D, 0, none⟩)) ∧ One W w' D (decide (0 < K)) A K c m ∧ Kept (fun k => k = D) w w' := by
  refine (neg5 D K c A w hK h.box).mono ?_
  rintro e w' ⟨rfl, h1, h2⟩
  exact ⟨rfl, ⟨h.base.trans (h2.below h.base.size (fun k e => by rw [e]; exact h.room)), h.room, h1, h.wd.kept h2 (fun k e e2 => h.far (e2 ▸ e)), h.far, h.norm⟩, h2⟩

theorem cmp_one {W w : World} {D D' K c c' : Nat} {A A' : Option Addr} {s : Bool} {m : Nat → Nat} (h : One W w D s A K c m) (h' : One W w D' s A' K c' m) (hne : D ≠ D') (hK : K ≤ 300000) :
    Calls Yba.prog 7 #[.pointer (some ⟨D, 0, none⟩), .pointer (some ⟨D', 0, none⟩)] w fun e w' => e = .returned (.int .i64 0) ∧ ∃ q, w' = w.drewN q :=
  cmp7 D D' K c c' _ _ A A' s w m hK hne h.box h'.box h.wd h'.wd

set_option maxHeartbeats 8000000 in
set_option maxRecDepth 100000 in
theorem law_walk (a0 : Option Addr) (len0 cap0 : Nat) (Z : Nat → Nat) (a1 : Bool) (x2 : Nat) (w : World) (h2 : x2 < 256) (hZ : ∀ i, i < len0 → Z i < 256)
    (h0 : len0 = 0 ∨ (len0 ≤ cap0 ∧ cap0 ≤ 9223372036854775807 ∧ ∃ a, a0 = some a ∧ ∀ i, i < len0 → w.cell? (a.add i) = some (.int .u8 (Z i : Nat)))) :
    Calls Yba.prog 3 #[.slice a0 len0 cap0, .bool a1, .int .u8 (x2 : Nat)] w fun e w' => e = .returned (.bool true) ∧ Below w.heap.size w w' := by
  by_cases hbig : (1048576 : Int) < (len0 : Int)
  · clear h0 h2 hZ
    go_enter Yba.func3, Yba.ntmps3
    go_wp2_with fail
    go_ret
    exact ⟨rfl, Below.refl _ _⟩
  obtain ⟨m, hmd⟩ : ∃ m : Nat → Nat, m = fun u => if u < len0 then Z (len0 - 1 - u) else 0 := ⟨_, rfl⟩
  have hm : ∀ u, m u < 256 := fun u => by
    rw [hmd]
    by_cases e : u < len0
    · simp only [if_pos e]; exact hZ _ (by omega)
    · simp only [if_neg e]; omega
  have hz : ∀ u, len0 ≤ u → m u = 0 := fun u hu => by rw [hmd]; simp only [if_neg (show ¬ u < len0 by omega)]
  have hmZ : ∀ i, i < len0 → m (len0 - 1 - i) = Z i := fun i hi => by
    rw [hmd]; simp only [if_pos (show len0 - 1 - i < len0 by omega), show len0 - 1 - (len0 - 1 - i) = i by omega]
  have hB : Bytes w a0 len0 cap0 m := by
    rcases h0 with h | ⟨h1, h2, a, ha, h3⟩
    · exact Or.inl h
    · refine Or.inr ⟨h1, h2, a, ha, fun u hu => ?_⟩
      rw [h3 _ (by omega), ← hmZ _ (by omega), show len0 - 1 - (len0 - 1 - u) = u by omega]
  have HB : Hid (Bytes w a0 len0 cap0 m) := hB
  have HM : Hid ((∀ u, m u < 256) ∧ (∀ u, len0 ≤ u → m u = 0) ∧ ∀ i, i < len0 → m (len0 - 1 - i) = Z i) := ⟨hm, hz, hmZ⟩
  have H0 : Hid (∀ i, i < len0 → ∃ a, a0 = some a ∧ w.cell? (a.add i) = some (.int .u8 (Z i : Nat))) := fun i hi => by
    rcases h0 with h | ⟨h1, h2, a, ha, h3⟩
    · omega
    · exact ⟨a, ha, h3 i hi⟩
  clear hmd hm hz hmZ hB h0 hZ
  go_enter Yba.func3, Yba.ntmps3
  go_upto_block 0 with fail
  go_cut [7] from 18 to 30 (fun s7 wc => ∃ L : Nat, L ≤ len0 ∧ s7 = .int .i64 L ∧ (∀ i, i < L → Z i = 0) ∧ wc = w)
  case first =>
    go_wp2_with fail
    go_loopg [7] len0 (fun g i wr => ∃ L : Nat, L ≤ len0 ∧ g = len0 - L ∧ i = .int .i64 L ∧ Hid (∀ i, i < L → Z i = 0) ∧ wr = w)
    case atStart => exact ⟨0, by omega, rfl, rfl, (fun i hi => by omega), rfl⟩
    case round =>
      obtain ⟨L, hL, rfl, rfl, HL, rfl⟩ := hrel
      by_cases hlt : L < len0
      · have hltz : (L : Int) < (len0 : Int) := by omega
        obtain ⟨a, rfl, cL⟩ := H0.out L hlt
        by_cases h00 : Z L = 0
        · rw [h00] at cL
          go_wp2_with fail
          go_roundg (len0 - (L + 1))
          case measure => go_light; omega
          case rel =>
            go_light
            exact ⟨L + 1, by omega, rfl, by simp, (fun i hi => by
              by_cases e : i = L
              · rw [e]; exact h00
              · exact HL.out i (by omega)), rfl⟩
        · have hzz : (((Z L : Nat) : Int) == 0) = false := by simp; omega
          go_wp2_with fail
          go_meet
          exact ⟨L, by omega, rfl, HL.out, rfl⟩
      · obtain rfl : L = len0 := by omega
        go_wp2_with fail
        go_meet
        exact ⟨L, by omega, rfl, HL.out, rfl⟩
  case rest =>
    obtain ⟨L, hL, rfl, hLz, hw⟩ := hcut
    obtain rfl : w = wc := hw.symm
    obtain ⟨r, hr⟩ : ∃ r, r = x2 % 64 := ⟨_, rfl⟩
    have hr64 : r < 64 := by omega
    have hrz : ((x2 : Int) % 64) = (r : Int) := by omega
    obtain ⟨S, hS⟩ : ∃ S, S = len0 - L + r := ⟨_, rfl⟩
    have hSz : (len0 : Int) - (L : Int) + (r : Int) = (S : Int) := by omega
    have hSb : S ≤ 2000000 := by omega
    have HS : Hid (S = len0 - L + r) := hS
    have HLZ : Hid (∀ i, i < L → Z i = 0) := hLz
    have SB : Hid (∀ w', Below w.heap.size w w' → Calls Yba.prog 4 #[.pointer (some ⟨w'.heap.size, 0, none⟩), .slice a0 len0 cap0] (w'.alloc zeroInt) fun e w2 => e = .returned (.pointer (some ⟨w'.heap.size, 0, none⟩)) ∧ ∃ A K c, Hid (One w w2 w'.heap.size false A K c m ∧ Kept (fun _ => False) w' w2)) := fun w' hb =>
      new4 w w' hb a0 len0 cap0 m (by omega) HM.out.1 HM.out.2.1 HB.out
    clear hS hLz hr
    go_upto_if 42 with (go_at_call 4; refine (SB.out w (Below.refl _ _)).mono ?_; rintro e w2 ⟨rfl, A, K, c, HO⟩)
    have hKb : K ≤ 300000 := by
      have := HO.out.1.norm.bound HM.out.2.1
      omega
    go_cut [] (fun wc => Hid (One w wc w.heap.size (a1 && decide (0 < K)) A K c m))
    case first =>
      cases a1
      · go_wp2_with fail
        go_meet
        exact HO.out.1
      · have NG : Hid (Calls Yba.prog 5 #[.pointer (some ⟨w.heap.size, 0, none⟩), .pointer (some ⟨w.heap.size, 0, none⟩)] w2 fun e w' => e = .returned (.pointer (some ⟨w.heap.size, 0, none⟩)) ∧ Hid (One w w' w.heap.size (decide (0 < K)) A K c m)) := (neg_one HO.out.1 hKb).mono (fun e w' h => ⟨h.1, h.2.1⟩)
        go_wp2_with (go_at_call 5; refine NG.out.mono ?_; rintro e w3 ⟨rfl, H3⟩)
        go_meet
        have h3 : One w w3 w.heap.size (true && decide (0 < K)) A K c m := by simpa using H3.out
        exact h3
    case rest =>
      obtain ⟨w3, rfl⟩ : ∃ w3, w3 = wc := ⟨_, rfl⟩
      have H3 : Hid (One w w3 w.heap.size (a1 && decide (0 < K)) A K c m) := hcut
      clear hcut HO
      go_upto_if 49 with (go_at_call 4; refine (SB.out w3 H3.out.base).mono ?_; rintro e w4 ⟨rfl, A', K', c', H4⟩)
      obtain rfl : K = K' := H3.out.norm.unique H4.out.1.norm
      have hDD : w.heap.size ≠ w3.heap.size := by have := H3.out.box.lt; omega
      go_cut [] (fun wc => Hid (One w wc w.heap.size (a1 && decide (0 < K)) A K c m ∧ One w wc w3.heap.size (a1 && decide (0 < K)) A' K c' m))
      case first =>
        cases a1
        · go_wp2_with fail
          go_meet
          exact ⟨H3.out.kept H4.out.2, H4.out.1⟩
        · have NG : Hid (Calls Yba.prog 5 #[.pointer (some ⟨w3.heap.size, 0, none⟩), .pointer (some ⟨w3.heap.size, 0, none⟩)] w4 fun e w' => e = .returned (.pointer (some ⟨w3.heap.size, 0, none⟩)) ∧ Hid (One w w' w3.heap.size (decide (0 < K)) A' K c' m ∧ Kept (fun k => k = w3.heap.size) w4 w')) := (neg_one H4.out.1 hKb).mono (fun e w' h => ⟨h.1, h.2⟩)
          go_wp2_with (go_at_call 5; refine NG.out.mono ?_; rintro e w5 ⟨rfl, H5⟩)
          go_meet
          have h1 := H5.out.1
          have h2 : Kept (fun k => k = w3.heap.size) w3 w5 := (H4.out.2.mono (fun _ e => False.elim e)).trans H5.out.2
          have h3 := H3.out.kept (h2.fresh (Nat.le_refl _))
          exact ⟨h3, by simpa using h1⟩
      case rest =>
        obtain ⟨w5, rfl⟩ : ∃ w5, w5 = wc := ⟨_, rfl⟩
        obtain ⟨s, hs⟩ : ∃ s, s = (a1 && decide (0 < K)) := ⟨_, rfl⟩
        rw [← hs] at hcut
        have H5 : Hid (One w w5 w.heap.size s A K c m ∧ One w w5 w3.heap.size s A' K c' m) := hcut
        have hSz0 : ∀ u, S ≤ u → m u = 0 := fun u hu => by
          by_cases e : len0 ≤ u
          · exact HM.out.2.1 u e
          · have h1 := HM.out.2.2 (len0 - 1 - u) (by omega)
            have h2 := HLZ.out (len0 - 1 - u) (by have := HS.out; omega)
            rw [show len0 - 1 - (len0 - 1 - u) = u by omega] at h1
            rw [h1, h2]
        have HZ0 : Hid (∀ u, S ≤ u → m u = 0) := hSz0
        have LB : Hid (Calls Yba.prog 6 #[.pointer (some ⟨w.heap.size, 0, none⟩), .int .i64 S] w5 fun e w' => e = .returned (.slice (some ⟨w5.heap.size, 0, none⟩) S S) ∧ Hid (w'.rowIs w5.heap.size 5 S (fun x => .int .u8 (m x : Nat)) ∧ Kept (fun _ => False) w5 w')) :=
          leb6 w.heap.size S K c _ A s w5 m HM.out.1 hKb hSb hSz0 H5.out.1.norm H5.out.1.box H5.out.1.wd
        clear hcut hSz0 hs H3 H4 SB
        go_wp2_with (go_at_call 6; refine LB.out.mono ?_; rintro e w6 ⟨rfl, HX⟩)
        clear LB
        have H6 : Hid (One w w6 w.heap.size s A K c m ∧ One w w6 w3.heap.size s A' K c' m) := ⟨H5.out.1.kept HX.out.2, H5.out.2.kept HX.out.2⟩
        have HB6 : Hid (Bytes w6 a0 len0 cap0 m) := HB.out.below H6.out.1.base
        go_loopg [12] S (fun g i wr => ∃ t : Nat, t ≤ S ∧ g = S - t ∧ i = .int .i64 t ∧ wr = w6)
        case atStart => exact ⟨0, by omega, rfl, rfl, rfl⟩
        case round =>
          obtain ⟨t, ht, rfl, rfl, hwr⟩ := hrel
          obtain rfl : w6 = _ := hwr.symm
          by_cases hlt : t < S
          · have hltz : (t : Int) < (S : Int) := by omega
            have cG : w6.cell? ⟨w5.heap.size, t, none⟩ = some (.int .u8 (m t : Nat)) := HX.out.1.cell hlt
            by_cases hin : t < len0
            · have hinz : (t : Int) < (len0 : Int) := by omega
              obtain ⟨y, hy⟩ : ∃ y, y = len0 - 1 - t := ⟨_, rfl⟩
              have hyz : (len0 : Int) - 1 - (t : Int) = (y : Int) := by omega
              have hyl : (y : Int) < (len0 : Int) := by omega
              rcases HB6.out with h | ⟨_, _, a, rfl, hc⟩
              · omega
              · have cM : w6.cell? (a.add y) = some (.int .u8 (m t : Nat)) := by rw [hy]; exact hc t hin
                clear hc hy
                go_wp2_with fail
                go_roundg (S - (t + 1))
                case measure => go_light; omega
                case rel => go_light; exact ⟨t + 1, by omega, rfl, by simp, rfl⟩
            · have hinz : ¬ (t : Int) < (len0 : Int) := by omega
              rw [HM.out.2.1 t (by omega)] at cG
              go_wp2_with fail
              go_roundg (S - (t + 1))
              case measure => go_light; omega
              case rel => go_light; exact ⟨t + 1, by omega, rfl, by simp, rfl⟩
          · obtain rfl : t = S := by omega
            have CM : Hid (∀ w', One w w' w.heap.size s A K c m → One w w' w3.heap.size s A' K c' m → Calls Yba.prog 7 #[.pointer (some ⟨w.heap.size, 0, none⟩), .pointer (some ⟨w3.heap.size, 0, none⟩)] w' fun e w2 => e = .returned (.int .i64 0) ∧ ∃ q, w2 = w'.drewN q) := fun w' h1 h2 => cmp_one h1 h2 hDD hKb
            go_wp2_with (go_at_call 7; refine (CM.out w6 H6.out.1 H6.out.2).mono ?_; rintro e w7 ⟨rfl, q, rfl⟩)
            have HX7 : Hid ((w6.drewN q).rowIs w5.heap.size 5 t (fun x => .int .u8 (m x : Nat)) ∧ Kept (fun _ => False) w5 (w6.drewN q)) := ⟨HX.out.1, HX.out.2.drewN q⟩
            clear HX H6 HB6
            go_loopg [14] t (fun g i wr => ∃ u : Nat, u ≤ t ∧ g = t - u ∧ i = .int .i64 u ∧ (∃ F : Nat → Value, wr.rowIs w5.heap.size 5 t F ∧ ∀ x, x < t → ∃ z : Int, F x = .int .u8 z) ∧ Kept (fun k => k = w5.heap.size) w5 wr)
            case atStart => exact ⟨0, by omega, rfl, rfl, ⟨_, HX7.out.1, fun x _ => ⟨_, rfl⟩⟩, HX7.out.2.mono (fun _ e => False.elim e)⟩
            case round =>
              obtain ⟨u, hu, rfl, rfl, ⟨F, hF, hFz⟩, hk⟩ := hrel
              obtain ⟨w8, rfl⟩ : ∃ w8, w8 = wr := ⟨_, rfl⟩
              by_cases hut : u < t
              · have hutz : (u : Int) < (t : Int) := by omega
                obtain ⟨z, hz⟩ := hFz u hut
                have cU : w8.cell? ⟨w5.heap.size, u, none⟩ = some (.int .u8 z) := by rw [hF.cell hut, hz]
                have fU : w8.frozen? ⟨w5.heap.size, u, none⟩ = false := hF.frozen u
                have HR : Hid ((w8.rowIs w5.heap.size 5 t F ∧ ∀ x, x < t → ∃ z : Int, F x = .int .u8 z) ∧ Kept (fun k => k = w5.heap.size) w5 w8) := ⟨⟨hF, hFz⟩, hk⟩
                clear hF hFz hk hz
                go_wp2_with fail
                go_roundg (t - (u + 1))
                case measure => go_light; omega
                case rel =>
                  go_light
                  refine ⟨u + 1, by omega, rfl, by simp, ⟨_, HR.out.1.1.set u _, fun x hx => ?_⟩, Kept.setCell (p := fun k => k = w5.heap.size) HR.out.2 (x := ⟨w5.heap.size, u, none⟩) rfl _⟩
                  by_cases e : x = u
                  · exact ⟨_, if_pos e⟩
                  · obtain ⟨z', hz'⟩ := HR.out.1.2 x hx
                    exact ⟨z', by rw [if_neg e]; exact hz'⟩
              · obtain rfl : u = t := by omega
                have hk8 := hk.fresh (Nat.le_refl _)
                have H8 : Hid (One w w8 w.heap.size s A K c m ∧ One w w8 w3.heap.size s A' K c' m) := ⟨H5.out.1.kept hk8, H5.out.2.kept hk8⟩
                clear hF hFz hk hk8
                go_wp2_with (go_at_call 7; refine (CM.out w8 H8.out.1 H8.out.2).mono ?_; rintro e w9 ⟨rfl, q2, rfl⟩)
                go_ret
                exact ⟨rfl, below_drewN H8.out.1.base _⟩
end Go.Proofs.Ybulkdkma.N
