/-
  The contracts of (*deep[int]).pop (function 12), empty (13), len (14), at (15); reset (10) over 'Own'.
-/
import Derived.Test.YbulkdkkkOwn
import Derived.LaidEqlPtr
namespace Go.Proofs.Ybulkdkkk.C
open Go.RowKit Go.Deep
set_option linter.unusedVariables false

/-- pop where the last block holds more than one entry: the header alone turns. -/
theorem Own.less {w : World} {D B : Nat} {sv : Value} {fs : List Nat} {b l g cap : Nat} (h : Own w D B (.slice (some ⟨g, 0, none⟩) (fs.length + 1) cap) sv (fs ++ [b]) (l + 1)) :
    Own (w.setCell ⟨g, fs.length, none⟩ (Hd b l)) D B (.slice (some ⟨g, 0, none⟩) (fs.length + 1) cap) sv (fs ++ [b]) l := by
  obtain ⟨g', cap', cur, hv, hB, hg, _, _, _, hgb, _, _, _⟩ := h.shape
  simp only [Value.slice.injEq, Option.some.injEq, Addr.mk.injEq, and_true, true_and] at hv
  obtain ⟨rfl, rfl⟩ := hv
  have hd := h.dlt
  have ho := h.own
  rw [hdrs_snoc, List.length_append, List.length_singleton] at ho
  refine ⟨hd, by simpa using h.room, h.box.setOther (by show D ≠ g; omega) _, ?_, fun y hy => (h.blk y hy).setCell _ _ _, ?_, fun hne => by have := h.len hne; omega⟩
  · rw [hdrs_snoc, List.length_append, List.length_singleton]
    have h2 := (ho.stored fs.length (Hd b l)).1
    rw [List.set_append_right _ _ (by simp)] at h2
    simpa using h2
  · rcases h.sp with h0 | ⟨c, h1, h2⟩
    · exact Or.inl h0
    · exact Or.inr ⟨c, h1, h2.setCell _ _ _⟩

/-- pop of the last block's last entry: the block becomes the spare. -/
theorem Own.drop {w : World} {D B : Nat} {sv : Value} {fs : List Nat} {b l g cap : Nat} (h : Own w D B (.slice (some ⟨g, 0, none⟩) (fs.length + 1) cap) sv (fs ++ [b]) l) :
    Own (((w.setCell ⟨g, fs.length, none⟩ (.slice none 0 0)).setCell ⟨D, 0, none⟩ (.slice (some ⟨g, 0, none⟩) fs.length cap)).setCell ⟨D, 1, none⟩ (Hd b 0)) D B (.slice (some ⟨g, 0, none⟩) fs.length cap) (Hd b 0) fs 256 := by
  obtain ⟨g', cap', cur, hv, hB, hg, _, _, _, hgb, _, _, _⟩ := h.shape
  simp only [Value.slice.injEq, Option.some.injEq, Addr.mk.injEq, and_true, true_and] at hv
  obtain ⟨rfl, rfl⟩ := hv
  have hd := h.dlt
  have ho := h.own
  rw [hdrs_snoc, List.length_append, List.length_singleton] at ho
  refine ⟨hd, by simpa using h.room, ?_, ?_, fun y hy => ((h.blk y (by simp [hy])).setCell _ _ _ |>.setCell _ _ _).setCell _ _ _, Or.inr ⟨b, rfl, (((h.blk b (by simp)).setCell _ _ _).setCell _ _ _).setCell _ _ _⟩, fun _ => Nat.le_refl _⟩
  · exact ((((h.box.setOther (a := ⟨g, fs.length, none⟩) (by show D ≠ g; omega) _).set 0 _).set 1 _)).congr (fun i hi => by
      match i, hi with
      | 0, _ => rfl
      | 1, _ => rfl)
  · have h2 := (ho.stored fs.length (.slice none 0 0)).1
    rw [List.set_append_right _ _ (by simp)] at h2
    simp only [List.length_map, Nat.sub_self, List.set_cons_zero] at h2
    have h3 := ownsRow_pop (by simp) h2
    rw [hdrs_full]
    exact owns_other (v := .slice none 0 0) (owns_other (v := .slice none 0 0) h3 (by omega) _) (by omega) _

set_option maxHeartbeats 1000000 in
set_option maxRecDepth 100000 in
theorem pop_less (D g m cap b l : Nat) (y : Value) (w : World) (hl : l + 1 ≤ 256) (hl1 : 1 ≤ l) (hm : m < cap) (hcap : cap ≤ 9223372036854775807) (d0 : w.cell? ⟨D, 0, none⟩ = some (.slice (some ⟨g, 0, none⟩) (m + 1) cap))
    (c0 : w.cell? ⟨g, m, none⟩ = some (.slice (some ⟨b, 0, none⟩) (l + 1) 256)) (f0 : w.frozen? ⟨g, m, none⟩ = false) (c1 : w.cell? ⟨b, l, none⟩ = some y) :
    Calls Yba.prog 12 #[.pointer (some ⟨D, 0, none⟩)] w fun e w' => (∃ u, e = .returned u) ∧ w' = w.setCell ⟨g, m, none⟩ (.slice (some ⟨b, 0, none⟩) l 256) := by
  go_enter Yba.func12, Yba.ntmps12
  go_wp2
  go_ret
  exact ⟨⟨_, rfl⟩, rfl⟩

set_option maxHeartbeats 1000000 in
set_option maxRecDepth 100000 in
theorem pop_last (D g m cap b : Nat) (y sv : Value) (w : World) (hm : m < cap) (hcap : cap ≤ 9223372036854775807) (d0 : w.cell? ⟨D, 0, none⟩ = some (.slice (some ⟨g, 0, none⟩) (m + 1) cap)) (d1 : w.cell? ⟨D, 1, none⟩ = some sv)
    (e0 : w.frozen? ⟨D, 0, none⟩ = false) (e1 : w.frozen? ⟨D, 1, none⟩ = false) (hDg : D ≠ g)
    (c0 : w.cell? ⟨g, m, none⟩ = some (.slice (some ⟨b, 0, none⟩) 1 256)) (f0 : w.frozen? ⟨g, m, none⟩ = false) (c1 : w.cell? ⟨b, 0, none⟩ = some y) :
    Calls Yba.prog 12 #[.pointer (some ⟨D, 0, none⟩)] w fun e w' => (∃ u, e = .returned u) ∧ w' = ((w.setCell ⟨g, m, none⟩ (.slice none 0 0)).setCell ⟨D, 0, none⟩ (.slice (some ⟨g, 0, none⟩) m cap)).setCell ⟨D, 1, none⟩ (.slice (some ⟨b, 0, none⟩) 0 256) := by
  go_enter Yba.func12, Yba.ntmps12
  go_wp2
  go_ret
  exact ⟨⟨_, rfl⟩, rfl⟩

theorem pop_spec (D B l : Nat) (v sv : Value) (fs : List Nat) (b : Nat) (w : World) (h : Own w D B v sv (fs ++ [b]) l) (hl1 : 1 ≤ l) :
    Calls Yba.prog 12 #[.pointer (some ⟨D, 0, none⟩)] w fun e w' => (∃ u, e = .returned u) ∧
      ∃ v' sv' bs' l', Own w' D B v' sv' bs' l' ∧ Kept (fun k => B ≤ k ∨ k = D) w w' ∧ (bs' ≠ [] → 1 ≤ l') ∧ cnt bs' l' + 1 = cnt (fs ++ [b]) l := by
  have hl2 := h.len (by simp)
  obtain ⟨g, cap, cur, rfl, hB, hg, hc1, hc2, hcs, hgb, hglt, c0, f0⟩ := h.shape
  obtain ⟨_, f, hf⟩ := h.blk b (by simp)
  have hd := h.dlt
  by_cases h1 : l = 1
  · subst h1
    refine (pop_last D g fs.length cap b (f 0) sv w (by omega) hc2 (h.box.cell (i := 0) (by omega)) (h.box.cell (i := 1) (by omega)) (h.box.frozen 0) (h.box.frozen 1) (by omega) c0 f0 (hf.cell (by omega))).mono ?_
    rintro e w' ⟨hu, rfl⟩
    refine ⟨hu, _, _, _, _, h.drop, (((Kept.refl _ w).setCell (x := ⟨g, fs.length, none⟩) (Or.inl hB) _).setCell (x := ⟨D, 0, none⟩) (Or.inr rfl) _).setCell (x := ⟨D, 1, none⟩) (Or.inr rfl) _, fun _ => by omega, ?_⟩
    rw [cnt_snoc]
    rcases List.eq_nil_or_concat fs with rfl | ⟨fs', b', rfl⟩
    · rfl
    · rw [List.concat_eq_append, cnt_snoc]; simp; omega
  · obtain ⟨k, rfl⟩ : ∃ k, l = k + 1 := ⟨l - 1, by omega⟩
    refine (pop_less D g fs.length cap b k (f k) w hl2 (by omega) (by omega) hc2 (h.box.cell (i := 0) (by omega)) c0 f0 (hf.cell (by omega))).mono ?_
    rintro e w' ⟨hu, rfl⟩
    exact ⟨hu, _, _, _, _, h.less, (Kept.refl _ w).setCell (x := ⟨g, fs.length, none⟩) (Or.inl hB) _, fun _ => by omega, by rw [cnt_snoc, cnt_snoc]; omega⟩

theorem neq_same' (W : World) (a : Addr) : (binOp .neq 31 (.pointer (some a)) (.pointer (some a))).run Yba.prog W = .ok (.bool false) W := by
  obtain ⟨j, hj⟩ : ∃ j, Yba.prog.info? 3 = some j := by
    obtain ⟨i, hi, _⟩ := Option.map_eq_some_iff.1 info3'
    exact ⟨i, hi⟩
  have h : ∀ d : Nat, (Op.equalIn (d + 1) 31 (.pointer (some a)) (.pointer (some a))).run Yba.prog W = .ok true W := fun d => by
    simp [Op.equalIn, run_underlying Yba.underlying31, sizeOf, typeInfo, hj, run_sameAddr_same]
  simp only [binOp]
  simp [Op.equal, Op.maxDepth, h 9999]

theorem empty_any (D m cap : Nat) (ao : Option Addr) (w : World) (d0 : w.cell? ⟨D, 0, none⟩ = some (.slice ao m cap)) :
    Calls Yba.prog 13 #[.pointer (some ⟨D, 0, none⟩)] w fun e w' => e = .returned (.bool ((m : Int) == 0)) ∧ w = w' := by
  go_enter Yba.func13, Yba.ntmps13
  go_wp2
  go_ret
  exact ⟨rfl, rfl⟩

theorem len_none (D cap : Nat) (ao : Option Addr) (w : World) (d0 : w.cell? ⟨D, 0, none⟩ = some (.slice ao 0 cap)) :
    Calls Yba.prog 14 #[.pointer (some ⟨D, 0, none⟩)] w fun e w' => e = .returned (.int .i64 0) ∧ w = w' := by
  go_enter Yba.func14, Yba.ntmps14
  go_wp2
  go_ret
  exact ⟨rfl, rfl⟩

theorem len_one (D g cap : Nat) (a : Option Addr) (w : World) (d0 : w.cell? ⟨D, 0, none⟩ = some (.slice (some ⟨g, 0, none⟩) 1 cap)) (c0 : w.cell? ⟨g, 0, none⟩ = some (.slice a 1 256)) (hcap : 1 ≤ cap) :
    Calls Yba.prog 14 #[.pointer (some ⟨D, 0, none⟩)] w fun e w' => e = .returned (.int .i64 1) ∧ w = w' := by
  go_enter Yba.func14, Yba.ntmps14
  go_wp2
  go_ret
  exact ⟨rfl, rfl⟩

theorem at_zero (D g b cap : Nat) (w : World) (d0 : w.cell? ⟨D, 0, none⟩ = some (.slice (some ⟨g, 0, none⟩) 1 cap)) (c0 : w.cell? ⟨g, 0, none⟩ = some (.slice (some ⟨b, 0, none⟩) 1 256)) (hcap : 1 ≤ cap) :
    Calls Yba.prog 15 #[.pointer (some ⟨D, 0, none⟩), .int .i64 0] w fun e w' => e = .returned (.pointer (some ⟨b, 0, none⟩)) ∧ w = w' := by
  go_enter Yba.func15, Yba.ntmps15
  go_wp2
  go_ret
  exact ⟨rfl, rfl⟩
theorem hdrs_head (b0 : Nat) (r : List Nat) (l : Nat) : ∃ L0, (hdrs (b0 :: r) l)[0]? = some (Hd b0 L0) ∧ (1 ≤ l → 1 ≤ L0) := by
  cases r with
  | nil => exact ⟨l, rfl, fun h => h⟩
  | cons c r => exact ⟨256, by simp [hdrs], fun _ => by omega⟩

theorem length_hdrs (bs : List Nat) (l : Nat) : (hdrs bs l).length = bs.length := by
  rcases List.eq_nil_or_concat bs with rfl | ⟨fs, b, rfl⟩
  · rfl
  · rw [List.concat_eq_append, hdrs_snoc]; simp

/-- The row of headers behind at least one block. -/
theorem Own.shape1 {w : World} {D B : Nat} {v sv : Value} {b0 : Nat} {r : List Nat} {l : Nat} (h : Own w D B v sv (b0 :: r) l) :
    ∃ g cap T L0, v = .slice (some ⟨g, 0, none⟩) (r.length + 1) cap ∧ B ≤ g ∧ w.rowIs g 25 cap T ∧ r.length + 1 ≤ cap ∧ cap ≤ 9223372036854775807 ∧ T 0 = Hd b0 L0 ∧ g ≠ b0 ∧ (1 ≤ l → 1 ≤ L0) := by
  have ho := h.own
  rw [List.length_cons] at ho
  rcases ho.2 with ⟨_, h2⟩ | ⟨g, cap, cur, hv, hB, hg, hn, hc, hs, ht⟩
  · omega
  · obtain ⟨L0, hL0, hL1⟩ := hdrs_head b0 r l
    have hs' : cur.size = cap := by simpa using hs
    refine ⟨g, cap, fun i => cur[i]?.getD undef, L0, hv, hB, ⟨cur, hg, hs', fun i hi => ?_⟩, hn, by simpa [maxLen] using hc, ?_, (h.blk b0 (by simp)).ne hg, hL1⟩
    · show cur[i]? = some (cur[i]?.getD undef)
      rw [Array.getElem?_eq_getElem (by omega)]; rfl
    · rw [← ht, List.getElem?_take, if_pos (by omega)] at hL0
      show (cur[0]?).getD undef = _
      rw [← Array.getElem?_toList, hL0]; rfl

theorem owns0_of_row {w : World} {g cap B : Nat} {f : Nat → Value} (h : w.rowIs g 25 cap f) (hB : B ≤ g) (hL : cap ≤ 9223372036854775807) : w.ownsRow B 25 1 (.slice (some ⟨g, 0, none⟩) 0 cap) 0 [] := by
  obtain ⟨c, hb, hs, _⟩ := h
  exact ⟨by simp, Or.inr ⟨g, cap, c, rfl, hB, hb, Nat.zero_le _, by simpa [maxLen] using hL, by omega, by simp⟩⟩

theorem reset_own_some (D B l : Nat) (v sv : Value) (b0 : Nat) (r : List Nat) (w : World) (h : Own w D B v sv (b0 :: r) l) :
    Calls Yba.prog 10 #[.pointer (some ⟨D, 0, none⟩)] w fun e w' => e = .returned (.tuple #[]) ∧ ∃ g cap, Own w' D B (.slice (some ⟨g, 0, none⟩) 0 cap) (Hd b0 0) [] 0 ∧ Kept (fun k => B ≤ k ∨ k = D) w w' := by
  obtain ⟨g, cap, T, L0, rfl, hB, hr, hn, hc, hT, hgb, _⟩ := h.shape1
  have hd := h.dlt
  have hb0 := h.blk b0 (by simp)
  refine (reset_some D g (r.length + 1) cap cap _ T _ L0 256 w h.box rfl hr (by omega) hn hn hT (fun e => by cases e) (by omega) hc).mono ?_
  rintro e w' ⟨rfl, h1, h2, h3⟩
  refine ⟨rfl, g, cap, ⟨hd, Nat.le_trans h.room h3.size, h1, owns0_of_row h2 hB hc, fun x hx => by simp at hx, Or.inr ⟨b0, rfl, hb0.kept h3 (by have := hb0.1; omega)⟩, fun hne => absurd rfl hne⟩, h3.mono (fun k hk => ?_)⟩
  rcases hk with rfl | rfl
  · exact Or.inr rfl
  · exact Or.inl hB

theorem reset_own_none (D B l : Nat) (v sv : Value) (w : World) (h : Own w D B v sv [] l) :
    Calls Yba.prog 10 #[.pointer (some ⟨D, 0, none⟩)] w fun e w' => e = .returned (.tuple #[]) ∧ Own w' D B v sv [] l ∧ Kept (fun k => B ≤ k ∨ k = D) w w' := by
  obtain ⟨ao, cap, rfl, hao, hc⟩ : ∃ ao cap, v = .slice ao 0 cap ∧ (ao = none → cap = 0) ∧ cap ≤ 9223372036854775807 := by
    rcases h.own.2 with ⟨rfl, _⟩ | ⟨g, cap, cur, rfl, hB, hg, hn, hc, r⟩
    · exact ⟨_, _, rfl, fun _ => rfl, by omega⟩
    · exact ⟨_, _, rfl, (fun e => by cases e), by simpa [maxLen] using hc⟩
  have hd := h.dlt
  refine (reset_none D cap ao _ w h.box rfl hao hc).mono ?_
  rintro e w' ⟨rfl, h1, h3⟩
  have hblk : ∀ x, Blk w B x → Blk w' B x := fun x hx => hx.kept h3 (by have := hx.1; omega)
  refine ⟨rfl, ⟨hd, Nat.le_trans h.room h3.size, h1, ?_, fun x hx => by simp at hx, ?_, h.len⟩, h3.mono (fun k hk => Or.inr hk)⟩
  · refine ⟨h.own.1, ?_⟩
    rcases h.own.2 with h2 | ⟨g, cap', cur, hv, hB, hg, rr⟩
    · exact Or.inl h2
    · exact Or.inr ⟨g, cap', cur, hv, hB, (h3.block g (Array.getElem?_eq_some_iff.1 hg).1 (by omega)).trans hg, rr⟩
  · rcases h.sp with h0 | ⟨c, h1', h2⟩
    · exact Or.inl h0
    · exact Or.inr ⟨c, h1', hblk c h2⟩
end Go.Proofs.Ybulkdkkk.C
