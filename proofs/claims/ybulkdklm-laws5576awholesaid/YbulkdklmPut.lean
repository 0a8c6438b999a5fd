/-
  slices.Clone at []*span (function 7); (*elementIndex).split (5), put (4).
-/
import Derived.Test.YbulkdklmIns
import Derived.Deep.RegionWith
import Derived.BigRegion
import Derived.Deep.DeepCutAuto
namespace Go.Proofs.Ybulkdklm.E
open Go.RowKit Go.Deep
set_option linter.unusedVariables false

/-- A pointer to a span that lies at the head of block b. -/
abbrev ptr (b : Nat) : Value := .pointer (some ⟨b, 0, none⟩)

set_option maxHeartbeats 1000000 in
theorem clone7 (w : World) (b o m c : Nat) (news : List Value) (hm : 1 ≤ m) (hm2 : m ≤ 1000000) (hl : news.length = m) (hcells : ∀ j u, news[j]? = some u → w.cell? ⟨b, o + j, none⟩ = some u) (h1 : ∀ u, u ∈ news → u.oneCell' = true) :
    Calls Yba.prog 7 #[.slice (some ⟨b, o, none⟩) m c] w fun e w' => ∃ g cap, e = .returned (.slice (some ⟨g, 0, none⟩) m cap) ∧ w'.ownsRow w.heap.size 29 1 (.slice (some ⟨g, 0, none⟩) m cap) m news ∧ Kept (fun _ => False) w w' := by
  have he := Lib.run_eql_slice_nil (P := Yba.prog) w 27 29 (some ⟨b, o, none⟩) m c 0 0 Yba.underlying27
  obtain ⟨i0, hi, hz0, hz1, hz2⟩ := info_parts info29
  go_enter Yba.func7, Yba.ntmps7
  go_wp2_with (at_builtin; refine wpList_append_own _ rfl (.tmp 5) (.tmp 6) 27 rfl w.heap.size 29 i0 (.pointer none) 1 8 Yba.underlying27 hi hz0 hz1 hz2 rfl (by decide) _ 0 [] rfl ?c0 ⟨b, o, none⟩ m c news rfl (by omega) ?c1 h1 ?c3 ?c4 ?c5 ?_)
  case c0 => exact World.ownsRow_made w #[] 0 (Nat.le_refl _) (by unfold maxLen; omega) rfl
  case c1 =>
    intro j u hj
    have := cell_later ((Below.refl w.heap.size w).alloc (Nat.le_refl _) (.cells #[] 29)) (hcells j u hj)
    rw [Addr.add_lit]
    exact this
  case c3 => unfold maxLen; omega
  case c4 => omega
  case c5 => simp
  intro v' w' hown hgrow _
  obtain ⟨g, cap, cur, rfl, hB, hg, hc1, hc2⟩ : ∃ g cap cur, v' = .slice (some ⟨g, 0, none⟩) m cap ∧ w.heap.size ≤ g ∧ w'.heap[g]? = some (.cells cur 29 (0, 0)) ∧ m ≤ cap ∧ True := by
    rcases hown.2 with ⟨_, h2⟩ | ⟨g, cap, cur, hv, hB, hg', hn, r⟩
    · omega
    · exact ⟨g, cap, cur, hv, hB, hg', hn, trivial⟩
  have hk : Kept (fun _ => False) w w' := by
    have h1' : Kept (fun k => k = w.heap.size) w w' := ((Kept.refl _ w).alloc (.cells #[] 29)).grown hgrow (fun k hk => by simp [Value.ownBlock] at hk; exact hk.symm)
    exact ⟨h1'.os, h1'.tape, h1'.output, h1'.size, fun k hk _ => h1'.block k hk (by omega)⟩
  have HO : Hid (_ ∧ _) := ⟨hown, hk⟩
  clear hown hgrow hcells hk
  go_wp2
  go_ret
  exact ⟨g, cap, rfl, HO.out⟩

/-- The index x at block D: its page list v with the pages' headers hs. -/
structure Idx (w : World) (D B : Nat) (v : Value) (hs : List Value) : Prop where
  dlt : D < B
  room : B ≤ w.heap.size
  box : w.rowIs D 26 1 (fun _ => v)
  own : w.ownsRow B 27 1 v hs.length hs

/-- A page: its header h, its spans ps. -/
def Pg (w : World) (B : Nat) (h : Value) (ps : List Nat) : Prop := w.ownsRow B 29 1 h ps.length (ps.map ptr) ∧ ps ≠ []

theorem Pg.shape {w : World} {B : Nat} {h : Value} {ps : List Nat} (hp : Pg w B h ps) : ∃ g cap, h = .slice (some ⟨g, 0, none⟩) ps.length cap ∧ B ≤ g ∧ ∃ f, w.rowIs g 29 cap f ∧ (∀ j, j < ps.length → f j = ptr (ps.getD j 0)) ∧ ps.length ≤ cap ∧ cap ≤ 9223372036854775807 := by
  have hne : 1 ≤ ps.length := by
    rcases ps with _ | ⟨a, r⟩
    · exact absurd rfl hp.2
    · simp
  rcases hp.1.2 with ⟨_, h2⟩ | ⟨g, cap, cur, rfl, hB, r⟩
  · omega
  · obtain ⟨f, hr, hx, _, hnc, hc63, _⟩ := row_of_own hp.1
    refine ⟨g, cap, rfl, hB, f, hr, fun j hj => ?_, hnc, hc63⟩
    have := hx j hj
    rw [List.getElem?_map, List.getElem?_eq_getElem hj] at this
    simp at this
    rw [← this, List.getD_eq_getElem?_getD, List.getElem?_eq_getElem hj]; rfl

theorem Pg.kept {w w' : World} {B : Nat} {h : Value} {ps : List Nat} {p : Nat → Prop} (hp : Pg w B h ps) (hk : Kept p w w') (hb : ∀ k, h.ownBlock = some k → ¬ p k) : Pg w' B h ps := ⟨hk.owns hp.1 hb, hp.2⟩

theorem Idx.shape {w : World} {D B : Nat} {v : Value} {hs : List Value} (h : Idx w D B v hs) (hne : 1 ≤ hs.length) : ∃ g cap, v = .slice (some ⟨g, 0, none⟩) hs.length cap ∧ B ≤ g ∧ hs.length ≤ cap ∧ cap ≤ 9223372036854775807 ∧
    (∀ j, j < hs.length → w.cell? ⟨g, j, none⟩ = some (hs.getD j undef)) ∧ (∀ j, w.frozen? ⟨g, j, none⟩ = false) ∧ g < w.heap.size ∧ D ≠ g := by
  have hd := h.dlt
  rcases h.own.2 with ⟨_, h2⟩ | ⟨g, cap, cur, rfl, hB, r⟩
  · omega
  · have ho := h.own
    obtain ⟨f, hr, hx, _, hnc, hc63, _⟩ := row_of_own ho
    refine ⟨g, cap, rfl, hB, hnc, hc63, fun j hj => ?_, fun j => hr.frozen j, hr.lt, by omega⟩
    rw [hr.cell (by omega)]
    have := hx j hj
    rw [List.getD_eq_getElem?_getD, this]; rfl
theorem one_ptrs (ps : List Nat) : ∀ u, u ∈ ps.map ptr → u.oneCell' = true := by
  intro u hu
  obtain ⟨b, _, rfl⟩ := List.mem_map.1 hu
  rfl

theorem Kept.cell {p : Nat → Prop} {w w' : World} (h : Kept p w w') {b i : Nat} {v : Value} (hv : w.cell? ⟨b, i, none⟩ = some v) (hb : ¬ p b) : w'.cell? ⟨b, i, none⟩ = some v := by
  rw [World.cell?_of_block (w := w) (h.block b (World.block_lt_of_cell? _ _ hv) hb)]; exact hv
theorem Kept.frozen {p : Nat → Prop} {w w' : World} (h : Kept p w w') {b i : Nat} (hb : b < w.heap.size) (hp : ¬ p b) : w'.frozen? ⟨b, i, none⟩ = w.frozen? ⟨b, i, none⟩ :=
  World.frozen?_of_block (w := w) (h.block b hb hp)
theorem Kept.noneToB {w w' : World} (h : Kept (fun _ => False) w w') (p : Nat → Prop) : Kept p w w' := h.mono (fun _ x => False.elim x)

theorem Idx.kept {w w' : World} {D B g0 cap0 m : Nat} {hs : List Value} {p : Nat → Prop} (h : Idx w D B (.slice (some ⟨g0, 0, none⟩) m cap0) hs) (hk : Kept p w w') (h1 : ¬ p D) (h2 : ¬ p g0) : Idx w' D B (.slice (some ⟨g0, 0, none⟩) m cap0) hs :=
  ⟨h.dlt, Nat.le_trans h.room hk.size, hk.rowIs h.box h1, hk.owns h.own (fun k e => by simp [Value.ownBlock] at e; subst e; exact h2)⟩

/-- A header stored into the page list. -/
theorem Idx.put {w : World} {D B g0 cap0 p : Nat} {hs : List Value} (h : Idx w D B (.slice (some ⟨g0, 0, none⟩) hs.length cap0) hs) (u : Value) :
    Idx (w.setCell ⟨g0, p, none⟩ u) D B (.slice (some ⟨g0, 0, none⟩) hs.length cap0) (hs.set p u) := by
  have hd := h.dlt
  obtain ⟨_, _, _, hB, _⟩ := row_of_own h.own
  refine ⟨hd, by simpa using h.room, h.box.setOther (by show D ≠ g0; omega) _, ?_⟩
  rw [List.length_set]
  exact (h.own.stored p u).1

theorem _root_.Go.World.ownsRow.lower {w : World} {B B' n : Nat} {E : TypeId} {v : Value} {xs : List Value} (h : w.ownsRow B E 1 v n xs) (hB : B' ≤ B) : w.ownsRow B' E 1 v n xs := by
  refine ⟨h.1, ?_⟩
  rcases h.2 with h2 | ⟨g, cap, cur, e, hg, r⟩
  · exact Or.inl h2
  · exact Or.inr ⟨g, cap, cur, e, Nat.le_trans hB hg, r⟩

theorem list_split (hs : List Value) (p : Nat) (h1 h2 : Value) (hp : p < hs.length) : (hs.set p h1).take (p + 1) ++ h2 :: (hs.set p h1).drop (p + 1) = hs.take p ++ h1 :: h2 :: hs.drop (p + 1) := by
  have e1 : (hs.set p h1).take (p + 1) = hs.take p ++ [h1] := by
    rw [List.take_succ_eq_append_getElem (by simpa using hp), List.take_set_of_le (Nat.le_refl _)]
    simp
  have e2 : (hs.set p h1).drop (p + 1) = hs.drop (p + 1) := by
    rw [List.drop_set, if_pos (by omega)]
  rw [e1, e2]; simp

set_option maxHeartbeats 4000000 in
set_option maxRecDepth 100000 in
theorem split_any (w : World) (D B p g0 cap0 g c : Nat) (hs : List Value) (ps : List Nat) (h : Idx w D B (.slice (some ⟨g0, 0, none⟩) hs.length cap0) hs) (hp : p < hs.length) (hgp : hs.getD p undef = .slice (some ⟨g, 0, none⟩) 128 c)
    (hps : Pg w B (.slice (some ⟨g, 0, none⟩) 128 c) ps) (hlen : ps.length = 128) (hm : hs.length ≤ 1000) (hone : ∀ u, u ∈ hs → u.oneCell' = true) :
    Calls Yba.prog 5 #[.pointer (some ⟨D, 0, none⟩), .int .i64 p] w fun e w' => e = .returned (.tuple #[]) ∧ ∃ v' h1 h2, Idx w' D B v' (hs.take p ++ h1 :: h2 :: hs.drop (p + 1)) ∧ Pg w' B h1 (ps.take 64) ∧ Pg w' B h2 (ps.drop 64) ∧
      Kept (fun k => k = D ∨ k = g0) w w' ∧ (∀ k, h1.ownBlock = some k → w.heap.size ≤ k) ∧ (∀ k, h2.ownBlock = some k → w.heap.size ≤ k) ∧ h1.ownBlock ≠ h2.ownBlock := by
  obtain ⟨g0', cap0', hv0, hB0, hc0, hc1, hcell, hfro, hg0, hDg⟩ := h.shape (by omega)
  cases hv0
  obtain ⟨g', c', hgv, hBg, f, hr, hf, hcl, hc63⟩ := hps.shape
  rw [hlen] at hgv hf hcl
  cases hgv
  have hd := h.dlt
  have d0 : w.cell? ⟨D, 0, none⟩ = some (.slice (some ⟨g0, 0, none⟩) hs.length cap0) := h.box.cell (by omega)
  have fD : w.frozen? ⟨D, 0, none⟩ = false := h.box.frozen 0
  have hD : D < w.heap.size := h.box.lt
  have cp : w.cell? ⟨g0, p, none⟩ = some (.slice (some ⟨g, 0, none⟩) 128 c) := by rw [hcell p hp, hgp]
  have fp : w.frozen? ⟨g0, p, none⟩ = false := hfro p
  have hgg0 : g0 ≠ g := by
    rintro rfl
    obtain ⟨f0, hr0, _⟩ := row_of_own h.own
    obtain ⟨c1, e1, _⟩ := hr0
    obtain ⟨c2, e2, _⟩ := hr
    rw [e1] at e2
    simp at e2
  -- the first half
  have hcl1 : Calls Yba.prog 7 #[.slice (some ⟨g, 0, none⟩) 64 c] w.drew fun e w' => ∃ a1 ca, e = .returned (.slice (some ⟨a1, 0, none⟩) 64 ca) ∧ w.heap.size ≤ a1 ∧ w'.ownsRow w.heap.size 29 1 (.slice (some ⟨a1, 0, none⟩) 64 ca) 64 ((ps.take 64).map ptr) ∧ Kept (fun _ => False) w w' ∧
      w'.cell? ⟨D, 0, none⟩ = some (.slice (some ⟨g0, 0, none⟩) hs.length cap0) ∧ w'.cell? ⟨g0, p, none⟩ = some (.slice (some ⟨g, 0, none⟩) 128 c) ∧ w'.frozen? ⟨g0, p, none⟩ = false := by
    refine (clone7 w.drew g 0 64 c ((ps.take 64).map ptr) (by omega) (by omega) (by simp [hlen]) (fun j u hj => ?_) (one_ptrs _)).mono ?_
    · have hj64 : j < 64 := by
        have := (List.getElem?_eq_some_iff.1 hj).1
        simp at this; omega
      rw [Nat.zero_add]
      show w.cell? _ = _
      rw [hr.cell (by omega), hf j (by omega)]
      rw [List.getElem?_map, List.getElem?_take, if_pos hj64] at hj
      rw [List.getD_eq_getElem?_getD]
      rw [List.getElem?_eq_getElem (by omega)] at hj ⊢
      simpa using hj
    · rintro e w' ⟨a1, ca, rfl, ho, hk⟩
      have hk' : Kept (fun _ => False) w w' := ⟨hk.os, hk.tape, hk.output, hk.size, hk.block⟩
      have hcell' : ∀ b i v, w.cell? ⟨b, i, none⟩ = some v → w'.cell? ⟨b, i, none⟩ = some v := fun b i v hv => by
        rw [World.cell?_of_block (w := w) (hk'.block b (World.block_lt_of_cell? _ _ hv) (fun x => x))]; exact hv
      obtain ⟨_, _, _, hb, _⟩ := row_of_own ho
      exact ⟨a1, ca, rfl, hb, ho, hk', hcell' _ _ _ d0, hcell' _ _ _ cp, by rw [World.frozen?_of_block (w := w) (hk'.block g0 hg0 (fun x => x))]; exact fp⟩
  have CL1 : Hid (Calls _ _ _ _ _) := hcl1
  have HH : Hid (Idx w D B (.slice (some ⟨g0, 0, none⟩) hs.length cap0) hs ∧ w.rowIs g 29 c f ∧ ∀ j, j < 128 → f j = ptr (ps.getD j 0)) := ⟨h, hr, hf⟩
  clear hcl1 hcell hfro hgp hf hr hps h
  go_enter Yba.func5, Yba.ntmps5
  go_upto_region 2 with fail
  go_cut [] (fun wc => ∃ a1 ca, w.heap.size ≤ a1 ∧ Idx wc D B (.slice (some ⟨g0, 0, none⟩) hs.length cap0) (hs.set p (.slice (some ⟨a1, 0, none⟩) 64 ca)) ∧ wc.ownsRow w.heap.size 29 1 (.slice (some ⟨a1, 0, none⟩) 64 ca) 64 ((ps.take 64).map ptr) ∧ Kept (fun k => k = g0) w wc)
  case first =>
    go_region_with (go_at_call 7; refine CL1.out.mono ?_; rintro e w1 ⟨a1, ca, rfl, ha1, ho1, hk1, d1, c1', f1⟩)
    all_goals go_wp2_with fail
    all_goals go_meet
    all_goals exact ⟨a1, ca, ha1, (HH.out.1.kept hk1 (fun x => x) (fun x => x)).put _, (Kept.setCell (p := fun k => k = g0) (Kept.refl (fun k => k = g0) w1) (x := ⟨g0, p, none⟩) rfl _).owns ho1 (fun k e => by simp [Value.ownBlock] at e; omega), Kept.setCell (p := fun k => k = g0) (hk1.noneToB _) (x := ⟨g0, p, none⟩) rfl _⟩
  case rest =>
    obtain ⟨a1, ca, ha1, hI, ho1, hk1⟩ := hcut
    clear CL1
    obtain ⟨hh0, hr, hf⟩ := HH.out
    have d1 : wc.cell? ⟨D, 0, none⟩ = some (.slice (some ⟨g0, 0, none⟩) hs.length cap0) := hI.box.cell (by omega)
    have fD1 : wc.frozen? ⟨D, 0, none⟩ = false := hI.box.frozen 0
    have hrc : wc.rowIs g 29 c f := hk1.rowIs hr (fun e => hgg0 e.symm)
    have hg0c : g0 < wc.heap.size := Nat.lt_of_lt_of_le hg0 hk1.size
    have hDc : D < wc.heap.size := hI.box.lt
    -- the second half
    have hcl2 : Calls Yba.prog 7 #[.slice (some ⟨g, 64, none⟩) 64 (c - 64)] wc.drew fun e w' => ∃ a2 cb, e = .returned (.slice (some ⟨a2, 0, none⟩) 64 cb) ∧ wc.heap.size ≤ a2 ∧ w'.ownsRow wc.heap.size 29 1 (.slice (some ⟨a2, 0, none⟩) 64 cb) 64 ((ps.drop 64).map ptr) ∧ Kept (fun _ => False) wc w' ∧
        w'.cell? ⟨D, 0, none⟩ = some (.slice (some ⟨g0, 0, none⟩) hs.length cap0) ∧ D < w'.heap.size := by
      refine (clone7 wc.drew g 64 64 (c - 64) ((ps.drop 64).map ptr) (by omega) (by omega) (by simp [hlen]) (fun j u hj => ?_) (one_ptrs _)).mono ?_
      · have hj64 : j < 64 := by
          have := (List.getElem?_eq_some_iff.1 hj).1
          simp at this; omega
        show wc.cell? _ = _
        rw [hrc.cell (by omega), hf (64 + j) (by omega)]
        rw [List.getElem?_map, List.getElem?_drop] at hj
        rw [List.getD_eq_getElem?_getD]
        rw [List.getElem?_eq_getElem (by omega)] at hj ⊢
        simpa using hj
      · rintro e w' ⟨a2, cb, rfl, ho, hk⟩
        have hk' : Kept (fun _ => False) wc w' := ⟨hk.os, hk.tape, hk.output, hk.size, hk.block⟩
        obtain ⟨_, _, _, hb, _⟩ := row_of_own ho
        exact ⟨a2, cb, rfl, hb, ho, hk', hk'.cell d1 (fun x => x), Nat.lt_of_lt_of_le hDc hk'.size⟩
    have CL2 : Hid (Calls _ _ _ _ _) := hcl2
    have HR : Hid (wc.rowIs g 29 c f ∧ ∀ j, j < 128 → f j = ptr (ps.getD j 0)) := ⟨hrc, hf⟩
    have HI : Hid (Idx wc D B (.slice (some ⟨g0, 0, none⟩) hs.length cap0) (hs.set p (.slice (some ⟨a1, 0, none⟩) 64 ca))) := hI
    have hins : ∀ (w2 : World) (a2 cb : Nat), Kept (fun _ => False) wc w2 → Calls Yba.prog 8 #[.slice (some ⟨g0, 0, none⟩) hs.length cap0, .int .i64 (IntKind.i64.wrap ((p : Int) + 1)), .slice (some ⟨w2.heap.size, 0, none⟩) 1 1] (w2.alloc (.cells #[.slice (some ⟨a2, 0, none⟩) 64 cb] 27)) fun e w' =>
        ∃ g3 c3, e = .returned (.slice (some ⟨g3, 0, none⟩) (hs.length + 1) c3) ∧ w'.ownsRow B 27 1 (.slice (some ⟨g3, 0, none⟩) (hs.length + 1) c3) (hs.length + 1) (hs.take p ++ .slice (some ⟨a1, 0, none⟩) 64 ca :: .slice (some ⟨a2, 0, none⟩) 64 cb :: hs.drop (p + 1)) ∧
          Kept (fun k => k = g0) w2 w' ∧ w'.cell? ⟨D, 0, none⟩ = some (.slice (some ⟨g0, 0, none⟩) hs.length cap0) ∧ w'.frozen? ⟨D, 0, none⟩ = false := fun w2 a2 cb hk2 => by
      have hI2 : Idx (w2.alloc (.cells #[.slice (some ⟨a2, 0, none⟩) 64 cb] 27)) D B _ _ := HI.out.kept ((hk2.noneToB (fun k => False)).alloc _) (fun x => x) (fun x => x)
      have ho := hI2.own
      rw [List.length_set] at ho
      have hg2 : g0 < w2.heap.size := Nat.lt_of_lt_of_le hg0c hk2.size
      have hB2 : B ≤ w2.heap.size := Nat.le_trans HI.out.room hk2.size
      have hw1 : IntKind.i64.wrap ((p : Int) + 1) = ((p + 1 : Nat) : Int) := by rw [IntKind.wrap_i64]; omega
      rw [hw1]
      refine (ins8_own (w2.alloc (.cells #[.slice (some ⟨a2, 0, none⟩) 64 cb] 27)) B g0 hs.length cap0 (p + 1) w2.heap.size (.slice (some ⟨a2, 0, none⟩) 64 cb) (hs.set p (.slice (some ⟨a1, 0, none⟩) 64 ca)) (by omega) ho (by omega) (by omega)
        (World.rowIs_alloc w2 _ 27 _ (fun i hi => by
          have : i = 0 := by simpa using hi
          subst this; rfl)) rfl (fun u hu => ?_) (by simp; omega)).mono ?_
      · rcases List.mem_or_eq_of_mem_set hu with h' | rfl
        · exact hone u h'
        · rfl
      · rintro e w3 ⟨v', rfl, ho3, hk3⟩
        rw [list_split hs p _ _ hp] at ho3
        obtain ⟨g3, c3, rfl⟩ : ∃ g3 c3, v' = .slice (some ⟨g3, 0, none⟩) (hs.length + 1) c3 := by
          rcases ho3.2 with ⟨_, h2⟩ | ⟨g3, c3, _, hv, _⟩
          · omega
          · exact ⟨g3, c3, hv⟩
        have hbx := hI2.box
        refine ⟨g3, c3, rfl, ho3, ?_, ?_, ?_⟩
        · exact ((Kept.refl (fun k => k = g0) w2).alloc _).trans (hk3.mono (fun k hk => hk.1))
        · exact (hk3.rowIs hbx (fun e => hDg e.1)).cell (i := 0) (by omega)
        · exact (hk3.rowIs hbx (fun e => hDg e.1)).frozen 0
    have INS : Hid (∀ (w2 : World) (a2 cb : Nat), Kept (fun _ => False) wc w2 → Calls _ _ _ _ _) := hins
    have HH2 : Hid (B ≤ w.heap.size) := hh0.room
    clear hcl2 hins hrc hf hI hr hh0 HH
    go_wp2_with fail
    go_region_with (first | (go_at_call 7; refine CL2.out.mono ?_; rintro e w2 ⟨a2, cb, rfl, ha2, ho2, hk2, d2, hDw2⟩) | (go_at_call 8; refine (INS.out w2 a2 cb hk2).mono ?_; rintro e w3 ⟨g3, c3, rfl, ho3, hk3, d3, f3⟩))
    all_goals go_wp2_with fail
    all_goals go_end0
    all_goals (
      have hKa : Kept (fun k => k = D ∨ k = g0) wc w3 := (hk2.noneToB _).trans (hk3.mono (fun k hk => Or.inr hk))
      have hKb : Kept (fun k => k = D ∨ k = g0) wc (w3.setCell ⟨D, 0, none⟩ (.slice (some ⟨g3, 0, none⟩) (hs.length + 1) c3)) := Kept.setCell (p := fun k => k = D ∨ k = g0) hKa (x := ⟨D, 0, none⟩) (Or.inl rfl) _
      have hKc : Kept (fun k => k = D ∨ k = g0) w2 (w3.setCell ⟨D, 0, none⟩ (.slice (some ⟨g3, 0, none⟩) (hs.length + 1) c3)) := Kept.setCell (p := fun k => k = D ∨ k = g0) (hk3.mono (fun k hk => Or.inr hk)) (x := ⟨D, 0, none⟩) (Or.inl rfl) _
      have hbox3 : w3.rowIs D 26 1 (fun _ => .slice (some ⟨g0, 0, none⟩) hs.length cap0) := hk3.rowIs (hk2.rowIs HI.out.box (fun x => x)) (fun e => hDg e)
      have ha1' : a1 < wc.heap.size := (row_of_own ho1).elim fun _ h => h.1.lt
      have hBr : B ≤ w.heap.size := Nat.le_trans HH2.out (Nat.le_refl _)
      have hg3 : B ≤ g3 := (row_of_own ho3).elim fun _ h => h.2.2.1
      refine ⟨rfl, .slice (some ⟨g3, 0, none⟩) (hs.length + 1) c3, .slice (some ⟨a1, 0, none⟩) 64 ca, .slice (some ⟨a2, 0, none⟩) 64 cb, ⟨hd, ?_, ?_, ?_⟩, ⟨?_, ?_⟩, ⟨?_, ?_⟩, ?_, ?_, ?_, ?_⟩
      case refine_1 => exact Nat.le_trans HI.out.room hKb.size
      case refine_2 => exact (hbox3.set 0 _).congr (fun i hi => by rw [if_pos (by omega)])
      case refine_3 =>
        have hl : (hs.take p ++ Value.slice (some ⟨a1, 0, none⟩) 64 ca :: Value.slice (some ⟨a2, 0, none⟩) 64 cb :: hs.drop (p + 1)).length = hs.length + 1 := by simp; omega
        rw [hl]
        exact (Kept.setCell (p := fun k => k = D) (Kept.refl _ w3) (x := ⟨D, 0, none⟩) rfl _).owns ho3 (fun k e => by simp [Value.ownBlock] at e; omega)
      case refine_4 =>
        rw [show (ps.take 64).length = 64 by simp [hlen]]
        exact hKb.owns (ho1.lower hBr) (fun k e => by simp [Value.ownBlock] at e; omega)
      case refine_5 => intro e; have := congrArg List.length e; simp [hlen] at this
      case refine_6 =>
        rw [show (ps.drop 64).length = 64 by simp [hlen]]
        exact hKc.owns (ho2.lower (Nat.le_trans hBr hk1.size)) (fun k e => by simp [Value.ownBlock] at e; omega)
      case refine_7 => intro e; have := congrArg List.length e; simp [hlen] at this
      case refine_8 => exact (hk1.mono (fun k hk => Or.inr hk)).trans hKb
      case refine_9 => intro k e; simp [Value.ownBlock] at e; omega
      case refine_10 => intro k e; simp [Value.ownBlock] at e; have := hk1.size; omega
      case refine_11 => simp [Value.ownBlock]; omega)
end Go.Proofs.Ybulkdklm.E
