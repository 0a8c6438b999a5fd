/-
  The contract of (*deep[int]).push (function 11).
-/
import Derived.Test.YbulkdkkkOwn
import Derived.BigRegion
import Derived.Maps.AppendAt
namespace Go.Proofs.Ybulkdkkk.C
open Go.RowKit Go.Deep
set_option linter.unusedVariables false

set_option maxHeartbeats 1000000 in
set_option maxRecDepth 100000 in
/-- push where the last block has room. -/
theorem push_room (D g m cap b l : Nat) (x : Int) (bv : Value) (w : World) (hl : l < 256) (hl1 : 1 ≤ l) (hm : m < cap) (hcap : cap ≤ 9223372036854775807)
    (d0 : w.cell? ⟨D, 0, none⟩ = some (.slice (some ⟨g, 0, none⟩) (m + 1) cap))
    (c0 : w.cell? ⟨g, m, none⟩ = some (.slice (some ⟨b, 0, none⟩) l 256)) (f0 : w.frozen? ⟨g, m, none⟩ = false)
    (c1 : w.cell? ⟨b, l, none⟩ = some bv) (f1 : w.frozen? ⟨b, l, none⟩ = false) (hgb : g ≠ b) (hb : b < w.heap.size) (hg : g < w.heap.size) (hD : D < w.heap.size) (hDg : D ≠ g) (hDb : D ≠ b) :
    Calls Yba.prog 11 #[.pointer (some ⟨D, 0, none⟩), .int .i64 x] w fun e w' => e = .returned (.tuple #[]) ∧
      ∃ q o, w' = (((w.setCell ⟨b, l, none⟩ (.int .i64 x)).setCell ⟨g, m, none⟩ (.slice (some ⟨b, 0, none⟩) (l + 1) 256)).alloc o).drewN q := by
  have e1 : (((m : Int) + 1) == 0) = false := by simp; omega
  have e2 : ((l : Int) == 256) = false := by simp; omega
  go_enter Yba.func11, Yba.ntmps11
  go_wp2_with fail
  go_region
  go_wp2
  go_end0
  exact ⟨rfl, 1, _, rfl⟩

theorem put_cell {w : World} {b l g m : Nat} {f : Nat → Value} (hb : w.rowIs b 3 256 f) (hl : l < 256) (hgb : g ≠ b) (x y : Value) (o : Obj) (q : Nat) :
    ((((w.setCell ⟨b, l, none⟩ x).setCell ⟨g, m, none⟩ y).alloc o).drewN q).cell? ⟨b, l, none⟩ = some x := by
  have h := rowIs_drewN ((((hb.set l x).setOther (a := ⟨g, m, none⟩) (Ne.symm hgb) y).alloc o)) q
  simpa using h.cell hl

theorem info25' : (Yba.prog.info? 25).map (fun i => (i.zero, i.size, i.bytes)) = some (some (.slice none 0 0), 1, 24) := by kernel_rfl

set_option maxHeartbeats 1000000 in
set_option maxRecDepth 100000 in
theorem push_new_EN (D B cap l : Nat) (ao : Option Addr) (x : Int) (w : World) (h : Own w D B (.slice ao 0 cap) (.slice none 0 0) [] l) :
    Calls Yba.prog 11 #[.pointer (some ⟨D, 0, none⟩), .int .i64 x] w fun e w' => e = .returned (.tuple #[]) ∧
      ∃ bn v', Own w' D B v' (.slice none 0 0) [bn] 1 ∧ Kept (fun k => B ≤ k ∨ k = D) w w' ∧ w'.cell? ⟨bn, 0, none⟩ = some (.int .i64 x) := by
  have d0 : w.cell? ⟨D, 0, none⟩ = some (.slice ao 0 cap) := h.box.cell (i := 0) (by omega)
  have d1 : w.cell? ⟨D, 1, none⟩ = some (.slice none 0 0) := h.box.cell (i := 1) (by omega)
  have f0 : w.frozen? ⟨D, 0, none⟩ = false := h.box.frozen 0
  have f1 : w.frozen? ⟨D, 1, none⟩ = false := h.box.frozen 1
  have hD : D < w.heap.size := h.box.lt
  have hdlt := h.dlt
  have hmk := make_256
  have he5 := fun W => Lib.run_eql_slice_nil (P := Yba.prog) W 25 3 none 0 0 0 0 Yba.underlying25
  obtain ⟨i0, hi, hz0, hz1, hz2⟩ := info_parts info25'
  go_enter Yba.func11, Yba.ntmps11
  go_wp2_with (at_builtin; refine wpList_append_own _ rfl (.tmp 37) (.tmp 39) 24 rfl B 25 i0 (.slice none 0 0) 1 24 Yba.underlying24 hi hz0 hz1 hz2 rfl (by decide) _ 0 [] rfl ((h.own.alloc _).alloc _) ⟨w.heap.size + 1, 0, none⟩ 1 1 [Hd w.heap.size 0] rfl rfl ?c1 ?c2 ?c3 ?c4 ?c5 ?_)
  case c1 =>
    intro j u hj
    match j, hj with
    | 0, hj => simp at hj; subst hj; simp [Addr.add]
  case c2 => intro u hu; simp at hu; subst hu; rfl
  case c3 => unfold maxLen; omega
  case c4 => omega
  case c5 => have := h.room; simp; omega
  intro v' w1 hown hgrow _
  have hpb := h.push_block (bn := w.heap.size) (Or.inl rfl) (((Kept.refl (fun _ => False) w).alloc _).alloc _) (((blk_made w B h.room)).alloc _) hown hgrow
  obtain ⟨g1, cap1, cur1, rfl, hB1, hg1, hc1, hc2, hcs1, hgb1, hglt, c2, f2⟩ := Own.shape' (fs := ([] : List Nat)) (0) (by simp) hpb.1
  have hbw : ∃ f, (w1.rowIs w.heap.size 3 256 f) := by
    obtain ⟨_, f, hf⟩ := hpb.1.blk w.heap.size (by simp)
    exact ⟨f, hf.of_block (by rw [Below.heap_setCell _ _ _ _ (by show w.heap.size ≠ D; have := (hpb.1.blk w.heap.size (by simp)).1; omega), Below.heap_setCell _ _ _ _ (by show w.heap.size ≠ D; have := (hpb.1.blk w.heap.size (by simp)).1; omega)])⟩
  obtain ⟨f, hbf⟩ := hbw
  have hbB : B ≤ w.heap.size := (hpb.1.blk w.heap.size (by simp)).1
  have c3 : w1.cell? ⟨w.heap.size, 0, none⟩ = some (f 0) := hbf.cell (by omega)
  have f3 : w1.frozen? ⟨w.heap.size, 0, none⟩ = false := hbf.frozen 0
  have hblt : w.heap.size < w1.heap.size := hbf.lt
  have hg1lt : g1 < w1.heap.size := by simpa using hglt
  have c4 : w1.cell? ⟨g1, 0, none⟩ = some (Hd w.heap.size 0) := by
    have := c2
    rw [World.cell?_setCell_other _ _ _ _ (fun e => by have := congrArg Addr.block e; simp at this; omega), World.cell?_setCell_other _ _ _ _ (fun e => by have := congrArg Addr.block e; simp at this; omega)] at this
    simpa using this
  have f4 : w1.frozen? ⟨g1, 0, none⟩ = false := by simpa using f2
  have hD1 : w1.rowIs D 30 2 (fun i => if i = 0 then (.slice ao 0 cap) else (.slice none 0 0)) := by
    refine ((h.box.alloc _).alloc _).of_block (hgrow.block D (by simp; omega) (fun e => ?_))
    have := (h.own.lt D e.symm).1
    omega
  have e0 : w1.cell? ⟨D, 0, none⟩ = some (.slice ao 0 cap) := hD1.cell (i := 0) (by omega)
  have e1' : w1.cell? ⟨D, 1, none⟩ = some (.slice none 0 0) := hD1.cell (i := 1) (by omega)
  have g0 : w1.frozen? ⟨D, 0, none⟩ = false := hD1.frozen 0
  have g1' : w1.frozen? ⟨D, 1, none⟩ = false := hD1.frozen 1
  have hDw1 : D < w1.heap.size := hD1.lt
  have hn1 : g1 ≠ D := by omega
  have hn2 : w.heap.size ≠ D := by omega
  have hcap3 : (0 : Nat) < cap1 := by omega
  have HPB : Hid (_ ∧ _) := hpb
  clear hpb hD1 hbf hown hgrow c2 f2 hcs1 hg1 d0 d1 f0 f1 hglt hc1
  go_wp2_with fail
  go_region
  go_wp2
  go_end0
  refine ⟨rfl, w.heap.size, _, Own.put' (fs := ([] : List Nat)) (0) (by simp) HPB.out.1 (by omega) _ _ 1, ?_, ?_⟩
  · exact ((((HPB.out.2.setCell (x := ⟨w.heap.size, 0, none⟩) (Or.inl hbB) _).setCell (x := ⟨g1, 0, none⟩) (Or.inl hB1) _).alloc _).drew)
  · obtain ⟨_, f', hf'⟩ := HPB.out.1.blk w.heap.size (by simp)
    exact put_cell hf' (by omega) hgb1 _ _ _ 1

set_option maxHeartbeats 1000000 in
set_option maxRecDepth 100000 in
theorem push_new_ES (D B cap l : Nat) (ao : Option Addr) (c : Nat) (x : Int) (w : World) (h : Own w D B (.slice ao 0 cap) (Hd c 0) [] l) :
    Calls Yba.prog 11 #[.pointer (some ⟨D, 0, none⟩), .int .i64 x] w fun e w' => e = .returned (.tuple #[]) ∧
      ∃ bn v', Own w' D B v' (.slice none 0 0) [bn] 1 ∧ Kept (fun k => B ≤ k ∨ k = D) w w' ∧ w'.cell? ⟨bn, 0, none⟩ = some (.int .i64 x) ∧ bn = c := by
  have d0 : w.cell? ⟨D, 0, none⟩ = some (.slice ao 0 cap) := h.box.cell (i := 0) (by omega)
  have d1 : w.cell? ⟨D, 1, none⟩ = some (Hd c 0) := h.box.cell (i := 1) (by omega)
  have f0 : w.frozen? ⟨D, 0, none⟩ = false := h.box.frozen 0
  have f1 : w.frozen? ⟨D, 1, none⟩ = false := h.box.frozen 1
  have hD : D < w.heap.size := h.box.lt
  have hdlt := h.dlt
  have hbc : Blk w B c := by
    rcases h.sp with h0 | ⟨c', h1, h2⟩
    · cases h0
    · cases h1; exact h2
  have he5 := fun W => Lib.run_eql_slice_nil (P := Yba.prog) W 25 3 (some ⟨c, 0, none⟩) 0 256 0 0 Yba.underlying25
  obtain ⟨i0, hi, hz0, hz1, hz2⟩ := info_parts info25'
  go_enter Yba.func11, Yba.ntmps11
  go_wp2_with (at_builtin; refine wpList_append_own _ rfl (.tmp 37) (.tmp 39) 24 rfl B 25 i0 (.slice none 0 0) 1 24 Yba.underlying24 hi hz0 hz1 hz2 rfl (by decide) _ 0 [] rfl (h.own.alloc _) ⟨w.heap.size, 0, none⟩ 1 1 [Hd c 0] rfl rfl ?c1 ?c2 ?c3 ?c4 ?c5 ?_)
  case c1 =>
    intro j u hj
    match j, hj with
    | 0, hj => simp at hj; subst hj; simp [Addr.add]
  case c2 => intro u hu; simp at hu; subst hu; rfl
  case c3 => unfold maxLen; omega
  case c4 => omega
  case c5 => have := h.room; simp; omega
  intro v' w1 hown hgrow _
  have hpb := h.push_block (bn := c) (Or.inl rfl) ((Kept.refl (fun _ => False) w).alloc _) ((hbc).alloc _) hown hgrow
  obtain ⟨g1, cap1, cur1, rfl, hB1, hg1, hc1, hc2, hcs1, hgb1, hglt, c2, f2⟩ := Own.shape' (fs := ([] : List Nat)) (0) (by simp) hpb.1
  have hbw : ∃ f, (w1.rowIs c 3 256 f) := by
    obtain ⟨_, f, hf⟩ := hpb.1.blk c (by simp)
    exact ⟨f, hf.of_block (by rw [Below.heap_setCell _ _ _ _ (by show c ≠ D; have := (hpb.1.blk c (by simp)).1; omega), Below.heap_setCell _ _ _ _ (by show c ≠ D; have := (hpb.1.blk c (by simp)).1; omega)])⟩
  obtain ⟨f, hbf⟩ := hbw
  have hbB : B ≤ c := (hpb.1.blk c (by simp)).1
  have c3 : w1.cell? ⟨c, 0, none⟩ = some (f 0) := hbf.cell (by omega)
  have f3 : w1.frozen? ⟨c, 0, none⟩ = false := hbf.frozen 0
  have hblt : c < w1.heap.size := hbf.lt
  have hg1lt : g1 < w1.heap.size := by simpa using hglt
  have c4 : w1.cell? ⟨g1, 0, none⟩ = some (Hd c 0) := by
    have := c2
    rw [World.cell?_setCell_other _ _ _ _ (fun e => by have := congrArg Addr.block e; simp at this; omega), World.cell?_setCell_other _ _ _ _ (fun e => by have := congrArg Addr.block e; simp at this; omega)] at this
    simpa using this
  have f4 : w1.frozen? ⟨g1, 0, none⟩ = false := by simpa using f2
  have hD1 : w1.rowIs D 30 2 (fun i => if i = 0 then (.slice ao 0 cap) else (Hd c 0)) := by
    refine ((h.box.alloc _)).of_block (hgrow.block D (by simp; omega) (fun e => ?_))
    have := (h.own.lt D e.symm).1
    omega
  have e0 : w1.cell? ⟨D, 0, none⟩ = some (.slice ao 0 cap) := hD1.cell (i := 0) (by omega)
  have e1' : w1.cell? ⟨D, 1, none⟩ = some (Hd c 0) := hD1.cell (i := 1) (by omega)
  have g0 : w1.frozen? ⟨D, 0, none⟩ = false := hD1.frozen 0
  have g1' : w1.frozen? ⟨D, 1, none⟩ = false := hD1.frozen 1
  have hDw1 : D < w1.heap.size := hD1.lt
  have hn1 : g1 ≠ D := by omega
  have hn2 : c ≠ D := by omega
  have hcap3 : (0 : Nat) < cap1 := by omega
  have HPB : Hid (_ ∧ _) := hpb
  clear hpb hD1 hbf hown hgrow c2 f2 hcs1 hg1 d0 d1 f0 f1 hglt hc1
  go_wp2_with fail
  go_region
  go_wp2
  go_end0
  refine ⟨rfl, c, _, Own.put' (fs := ([] : List Nat)) (0) (by simp) HPB.out.1 (by omega) _ _ 1, ?_, ?_, rfl⟩
  · exact ((((HPB.out.2.setCell (x := ⟨c, 0, none⟩) (Or.inl hbB) _).setCell (x := ⟨g1, 0, none⟩) (Or.inl hB1) _).alloc _).drew)
  · obtain ⟨_, f', hf'⟩ := HPB.out.1.blk c (by simp)
    exact put_cell hf' (by omega) hgb1 _ _ _ 1

set_option maxHeartbeats 1000000 in
set_option maxRecDepth 100000 in
theorem push_new_FN (D B cap g b : Nat) (fs : List Nat) (x : Int) (w : World) (hfs : fs.length ≤ 100000) (h : Own w D B (.slice (some ⟨g, 0, none⟩) (fs.length + 1) cap) (.slice none 0 0) (fs ++ [b]) 256) :
    Calls Yba.prog 11 #[.pointer (some ⟨D, 0, none⟩), .int .i64 x] w fun e w' => e = .returned (.tuple #[]) ∧
      ∃ bn v', Own w' D B v' (.slice none 0 0) (fs ++ [b] ++ [bn]) 1 ∧ Kept (fun k => B ≤ k ∨ k = D) w w' ∧ w'.cell? ⟨bn, 0, none⟩ = some (.int .i64 x) := by
  have d0 : w.cell? ⟨D, 0, none⟩ = some (.slice (some ⟨g, 0, none⟩) (fs.length + 1) cap) := h.box.cell (i := 0) (by omega)
  have d1 : w.cell? ⟨D, 1, none⟩ = some (.slice none 0 0) := h.box.cell (i := 1) (by omega)
  have f0 : w.frozen? ⟨D, 0, none⟩ = false := h.box.frozen 0
  have f1 : w.frozen? ⟨D, 1, none⟩ = false := h.box.frozen 1
  have hD : D < w.heap.size := h.box.lt
  have hdlt := h.dlt
  obtain ⟨c0, hcap1, hcap2, hgB⟩ : w.cell? ⟨g, fs.length, none⟩ = some (Hd b 256) ∧ fs.length + 1 ≤ cap ∧ cap ≤ 9223372036854775807 ∧ B ≤ g := by
    obtain ⟨g', cap', cur, hv, hB, hg, h1, h2, _, hgb, _, h3, _⟩ := h.shape
    simp only [Value.slice.injEq, Option.some.injEq, Addr.mk.injEq, and_true, true_and] at hv
    obtain ⟨rfl, rfl⟩ := hv
    exact ⟨h3, h1, h2, hB⟩
  have e1 : (((fs.length : Int) + 1) == 0) = false := by simp; omega
  have ho : w.ownsRow B 25 1 (.slice (some ⟨g, 0, none⟩) (fs.length + 1) cap) (fs.length + 1) (hdrs (fs ++ [b]) 256) := by simpa using h.own
  obtain ⟨XS, hXS⟩ : ∃ XS, XS = hdrs (fs ++ [b]) 256 := ⟨_, rfl⟩
  rw [← hXS] at ho
  have HXS : Hid (XS = hdrs (fs ++ [b]) 256) := hXS
  clear hXS
  have hmk := make_256
  have he5 := fun W => Lib.run_eql_slice_nil (P := Yba.prog) W 25 3 none 0 0 0 0 Yba.underlying25
  obtain ⟨i0, hi, hz0, hz1, hz2⟩ := info_parts info25'
  go_enter Yba.func11, Yba.ntmps11
  go_wp2_with (at_builtin; refine wpList_append_own _ rfl (.tmp 37) (.tmp 39) 24 rfl B 25 i0 (.slice none 0 0) 1 24 Yba.underlying24 hi hz0 hz1 hz2 rfl (by decide) _ (fs.length + 1) XS rfl ((ho.alloc _).alloc _) ⟨w.heap.size + 1, 0, none⟩ 1 1 [Hd w.heap.size 0] rfl rfl ?c1 ?c2 ?c3 ?c4 ?c5 ?_)
  case c1 =>
    intro j u hj
    match j, hj with
    | 0, hj => simp at hj; subst hj; simp [Addr.add]
  case c2 => intro u hu; simp at hu; subst hu; rfl
  case c3 => unfold maxLen; omega
  case c4 => omega
  case c5 => have := h.room; simp; omega
  intro v' w1 hown hgrow _
  rw [HXS.out] at hown
  have hlen : (fs ++ [b]).length = fs.length + 1 := by simp
  have hpb := h.push_block (bn := w.heap.size) (Or.inr rfl) (((Kept.refl (fun _ => False) w).alloc _).alloc _) (((blk_made w B h.room)).alloc _) (by rw [hlen]; exact hown) hgrow
  obtain ⟨g1, cap1, cur1, rfl, hB1, hg1, hc1, hc2, hcs1, hgb1, hglt, c2, f2⟩ := Own.shape' (fs := (fs ++ [b])) (fs.length + 1) (by simp) hpb.1
  have hbw : ∃ f, (w1.rowIs w.heap.size 3 256 f) := by
    obtain ⟨_, f, hf⟩ := hpb.1.blk w.heap.size (by simp)
    exact ⟨f, hf.of_block (by rw [Below.heap_setCell _ _ _ _ (by show w.heap.size ≠ D; have := (hpb.1.blk w.heap.size (by simp)).1; omega), Below.heap_setCell _ _ _ _ (by show w.heap.size ≠ D; have := (hpb.1.blk w.heap.size (by simp)).1; omega)])⟩
  obtain ⟨f, hbf⟩ := hbw
  have hbB : B ≤ w.heap.size := (hpb.1.blk w.heap.size (by simp)).1
  have c3 : w1.cell? ⟨w.heap.size, 0, none⟩ = some (f 0) := hbf.cell (by omega)
  have f3 : w1.frozen? ⟨w.heap.size, 0, none⟩ = false := hbf.frozen 0
  have hblt : w.heap.size < w1.heap.size := hbf.lt
  have hg1lt : g1 < w1.heap.size := by simpa using hglt
  have c4 : w1.cell? ⟨g1, fs.length + 1, none⟩ = some (Hd w.heap.size 0) := by
    have := c2
    rw [World.cell?_setCell_other _ _ _ _ (fun e => by have := congrArg Addr.block e; simp at this; omega), World.cell?_setCell_other _ _ _ _ (fun e => by have := congrArg Addr.block e; simp at this; omega)] at this
    simpa using this
  have f4 : w1.frozen? ⟨g1, fs.length + 1, none⟩ = false := by simpa using f2
  have hD1 : w1.rowIs D 30 2 (fun i => if i = 0 then (.slice (some ⟨g, 0, none⟩) (fs.length + 1) cap) else (.slice none 0 0)) := by
    refine ((h.box.alloc _).alloc _).of_block (hgrow.block D (by simp; omega) (fun e => ?_))
    have := (h.own.lt D e.symm).1
    omega
  have e0 : w1.cell? ⟨D, 0, none⟩ = some (.slice (some ⟨g, 0, none⟩) (fs.length + 1) cap) := hD1.cell (i := 0) (by omega)
  have e1' : w1.cell? ⟨D, 1, none⟩ = some (.slice none 0 0) := hD1.cell (i := 1) (by omega)
  have g0 : w1.frozen? ⟨D, 0, none⟩ = false := hD1.frozen 0
  have g1' : w1.frozen? ⟨D, 1, none⟩ = false := hD1.frozen 1
  have hDw1 : D < w1.heap.size := hD1.lt
  have hn1 : g1 ≠ D := by omega
  have hn2 : w.heap.size ≠ D := by omega
  have hcap3 : (fs.length + 1 : Nat) < cap1 := by omega
  have HPB : Hid (_ ∧ _) := hpb
  clear hpb hD1 hbf hown hgrow c2 f2 hcs1 hg1 d0 d1 f0 f1 hglt hc1
  go_wp2_with fail
  go_region
  go_wp2
  go_end0
  refine ⟨rfl, w.heap.size, _, Own.put' (fs := (fs ++ [b])) (fs.length + 1) (by simp) HPB.out.1 (by omega) _ _ 1, ?_, ?_⟩
  · exact ((((HPB.out.2.setCell (x := ⟨w.heap.size, 0, none⟩) (Or.inl hbB) _).setCell (x := ⟨g1, fs.length + 1, none⟩) (Or.inl hB1) _).alloc _).drew)
  · obtain ⟨_, f', hf'⟩ := HPB.out.1.blk w.heap.size (by simp)
    exact put_cell hf' (by omega) hgb1 _ _ _ 1

set_option maxHeartbeats 1000000 in
set_option maxRecDepth 100000 in
theorem push_new_FS (D B cap g b : Nat) (fs : List Nat) (c : Nat) (x : Int) (w : World) (hfs : fs.length ≤ 100000) (h : Own w D B (.slice (some ⟨g, 0, none⟩) (fs.length + 1) cap) (Hd c 0) (fs ++ [b]) 256) :
    Calls Yba.prog 11 #[.pointer (some ⟨D, 0, none⟩), .int .i64 x] w fun e w' => e = .returned (.tuple #[]) ∧
      ∃ bn v', Own w' D B v' (.slice none 0 0) (fs ++ [b] ++ [bn]) 1 ∧ Kept (fun k => B ≤ k ∨ k = D) w w' ∧ w'.cell? ⟨bn, 0, none⟩ = some (.int .i64 x) ∧ bn = c := by
  have d0 : w.cell? ⟨D, 0, none⟩ = some (.slice (some ⟨g, 0, none⟩) (fs.length + 1) cap) := h.box.cell (i := 0) (by omega)
  have d1 : w.cell? ⟨D, 1, none⟩ = some (Hd c 0) := h.box.cell (i := 1) (by omega)
  have f0 : w.frozen? ⟨D, 0, none⟩ = false := h.box.frozen 0
  have f1 : w.frozen? ⟨D, 1, none⟩ = false := h.box.frozen 1
  have hD : D < w.heap.size := h.box.lt
  have hdlt := h.dlt
  have hbc : Blk w B c := by
    rcases h.sp with h0 | ⟨c', h1, h2⟩
    · cases h0
    · cases h1; exact h2
  obtain ⟨c0, hcap1, hcap2, hgB⟩ : w.cell? ⟨g, fs.length, none⟩ = some (Hd b 256) ∧ fs.length + 1 ≤ cap ∧ cap ≤ 9223372036854775807 ∧ B ≤ g := by
    obtain ⟨g', cap', cur, hv, hB, hg, h1, h2, _, hgb, _, h3, _⟩ := h.shape
    simp only [Value.slice.injEq, Option.some.injEq, Addr.mk.injEq, and_true, true_and] at hv
    obtain ⟨rfl, rfl⟩ := hv
    exact ⟨h3, h1, h2, hB⟩
  have e1 : (((fs.length : Int) + 1) == 0) = false := by simp; omega
  have ho : w.ownsRow B 25 1 (.slice (some ⟨g, 0, none⟩) (fs.length + 1) cap) (fs.length + 1) (hdrs (fs ++ [b]) 256) := by simpa using h.own
  obtain ⟨XS, hXS⟩ : ∃ XS, XS = hdrs (fs ++ [b]) 256 := ⟨_, rfl⟩
  rw [← hXS] at ho
  have HXS : Hid (XS = hdrs (fs ++ [b]) 256) := hXS
  clear hXS
  have he5 := fun W => Lib.run_eql_slice_nil (P := Yba.prog) W 25 3 (some ⟨c, 0, none⟩) 0 256 0 0 Yba.underlying25
  obtain ⟨i0, hi, hz0, hz1, hz2⟩ := info_parts info25'
  go_enter Yba.func11, Yba.ntmps11
  go_wp2_with (at_builtin; refine wpList_append_own _ rfl (.tmp 37) (.tmp 39) 24 rfl B 25 i0 (.slice none 0 0) 1 24 Yba.underlying24 hi hz0 hz1 hz2 rfl (by decide) _ (fs.length + 1) XS rfl (ho.alloc _) ⟨w.heap.size, 0, none⟩ 1 1 [Hd c 0] rfl rfl ?c1 ?c2 ?c3 ?c4 ?c5 ?_)
  case c1 =>
    intro j u hj
    match j, hj with
    | 0, hj => simp at hj; subst hj; simp [Addr.add]
  case c2 => intro u hu; simp at hu; subst hu; rfl
  case c3 => unfold maxLen; omega
  case c4 => omega
  case c5 => have := h.room; simp; omega
  intro v' w1 hown hgrow _
  rw [HXS.out] at hown
  have hlen : (fs ++ [b]).length = fs.length + 1 := by simp
  have hpb := h.push_block (bn := c) (Or.inr rfl) ((Kept.refl (fun _ => False) w).alloc _) ((hbc).alloc _) (by rw [hlen]; exact hown) hgrow
  obtain ⟨g1, cap1, cur1, rfl, hB1, hg1, hc1, hc2, hcs1, hgb1, hglt, c2, f2⟩ := Own.shape' (fs := (fs ++ [b])) (fs.length + 1) (by simp) hpb.1
  have hbw : ∃ f, (w1.rowIs c 3 256 f) := by
    obtain ⟨_, f, hf⟩ := hpb.1.blk c (by simp)
    exact ⟨f, hf.of_block (by rw [Below.heap_setCell _ _ _ _ (by show c ≠ D; have := (hpb.1.blk c (by simp)).1; omega), Below.heap_setCell _ _ _ _ (by show c ≠ D; have := (hpb.1.blk c (by simp)).1; omega)])⟩
  obtain ⟨f, hbf⟩ := hbw
  have hbB : B ≤ c := (hpb.1.blk c (by simp)).1
  have c3 : w1.cell? ⟨c, 0, none⟩ = some (f 0) := hbf.cell (by omega)
  have f3 : w1.frozen? ⟨c, 0, none⟩ = false := hbf.frozen 0
  have hblt : c < w1.heap.size := hbf.lt
  have hg1lt : g1 < w1.heap.size := by simpa using hglt
  have c4 : w1.cell? ⟨g1, fs.length + 1, none⟩ = some (Hd c 0) := by
    have := c2
    rw [World.cell?_setCell_other _ _ _ _ (fun e => by have := congrArg Addr.block e; simp at this; omega), World.cell?_setCell_other _ _ _ _ (fun e => by have := congrArg Addr.block e; simp at this; omega)] at this
    simpa using this
  have f4 : w1.frozen? ⟨g1, fs.length + 1, none⟩ = false := by simpa using f2
  have hD1 : w1.rowIs D 30 2 (fun i => if i = 0 then (.slice (some ⟨g, 0, none⟩) (fs.length + 1) cap) else (Hd c 0)) := by
    refine ((h.box.alloc _)).of_block (hgrow.block D (by simp; omega) (fun e => ?_))
    have := (h.own.lt D e.symm).1
    omega
  have e0 : w1.cell? ⟨D, 0, none⟩ = some (.slice (some ⟨g, 0, none⟩) (fs.length + 1) cap) := hD1.cell (i := 0) (by omega)
  have e1' : w1.cell? ⟨D, 1, none⟩ = some (Hd c 0) := hD1.cell (i := 1) (by omega)
  have g0 : w1.frozen? ⟨D, 0, none⟩ = false := hD1.frozen 0
  have g1' : w1.frozen? ⟨D, 1, none⟩ = false := hD1.frozen 1
  have hDw1 : D < w1.heap.size := hD1.lt
  have hn1 : g1 ≠ D := by omega
  have hn2 : c ≠ D := by omega
  have hcap3 : (fs.length + 1 : Nat) < cap1 := by omega
  have HPB : Hid (_ ∧ _) := hpb
  clear hpb hD1 hbf hown hgrow c2 f2 hcs1 hg1 d0 d1 f0 f1 hglt hc1
  go_wp2_with fail
  go_region
  go_wp2
  go_end0
  refine ⟨rfl, c, _, Own.put' (fs := (fs ++ [b])) (fs.length + 1) (by simp) HPB.out.1 (by omega) _ _ 1, ?_, ?_, rfl⟩
  · exact ((((HPB.out.2.setCell (x := ⟨c, 0, none⟩) (Or.inl hbB) _).setCell (x := ⟨g1, fs.length + 1, none⟩) (Or.inl hB1) _).alloc _).drew)
  · obtain ⟨_, f', hf'⟩ := HPB.out.1.blk c (by simp)
    exact put_cell hf' (by omega) hgb1 _ _ _ 1

/-- push onto an empty deep: the entry lies at the head of the spare block, or of a new one. -/
theorem push_first (D B l : Nat) (v sv : Value) (x : Int) (w : World) (h : Own w D B v sv [] l) :
    Calls Yba.prog 11 #[.pointer (some ⟨D, 0, none⟩), .int .i64 x] w fun e w' => e = .returned (.tuple #[]) ∧
      ∃ bn v', Own w' D B v' (.slice none 0 0) [bn] 1 ∧ Kept (fun k => B ≤ k ∨ k = D) w w' ∧ w'.cell? ⟨bn, 0, none⟩ = some (.int .i64 x) ∧ ∀ c, sv = Hd c 0 → bn = c := by
  obtain ⟨ao, cap, rfl⟩ : ∃ ao cap, v = .slice ao 0 cap := by
    rcases h.own.2 with ⟨rfl, _⟩ | ⟨g, cap, cur, rfl, _⟩
    · exact ⟨_, _, rfl⟩
    · exact ⟨_, _, rfl⟩
  rcases h.sp with rfl | ⟨c, rfl, hc⟩
  · refine (push_new_EN D B cap l ao x w h).mono ?_
    rintro e w' ⟨rfl, bn, v', h1, h2, h3⟩
    exact ⟨rfl, bn, v', h1, h2, h3, fun c hc => by cases hc⟩
  · refine (push_new_ES D B cap l ao c x w h).mono ?_
    rintro e w' ⟨rfl, bn, v', h1, h2, h3, h4⟩
    exact ⟨rfl, bn, v', h1, h2, h3, fun c' hc' => by cases hc'; exact h4⟩

/-- push, whatever the deep holds. -/
theorem push_spec (D B l : Nat) (v sv : Value) (bs : List Nat) (x : Int) (w : World) (h : Own w D B v sv bs l) (hl1 : bs ≠ [] → 1 ≤ l) (hn : bs.length ≤ 100000) :
    Calls Yba.prog 11 #[.pointer (some ⟨D, 0, none⟩), .int .i64 x] w fun e w' => e = .returned (.tuple #[]) ∧
      ∃ v' sv' bs' l', Own w' D B v' sv' bs' l' ∧ Kept (fun k => B ≤ k ∨ k = D) w w' ∧ (bs' ≠ [] → 1 ≤ l') ∧ cnt bs' l' = cnt bs l + 1 := by
  rcases List.eq_nil_or_concat bs with rfl | ⟨fs, b, rfl⟩
  · refine (push_first D B l v sv x w h).mono ?_
    rintro e w' ⟨rfl, bn, v', h1, h2, h3, h4⟩
    exact ⟨rfl, v', _, [bn], 1, h1, h2, fun _ => Nat.le_refl _, rfl⟩
  · rw [List.concat_eq_append] at h hl1 hn ⊢
    have hl := hl1 (by simp)
    have hl2 := h.len (by simp)
    obtain ⟨g, cap, cur, rfl, hB, hg, hc1, hc2, hcs, hgb, hglt, c0, f0⟩ := h.shape
    have hbB := (h.blk b (by simp)).1
    obtain ⟨_, f, hf⟩ := h.blk b (by simp)
    have hd := h.dlt
    by_cases hfull : l = 256
    · subst hfull
      have hlen : fs.length ≤ 100000 := by simp at hn; omega
      rcases h.sp with rfl | ⟨c, rfl, hc⟩
      · refine (push_new_FN D B cap g b fs x w hlen h).mono ?_
        rintro e w' ⟨rfl, bn, v', h1, h2, h3⟩
        exact ⟨rfl, v', _, _, 1, h1, h2, fun _ => Nat.le_refl _, by rw [cnt_snoc, cnt_snoc]; simp; omega⟩
      · refine (push_new_FS D B cap g b fs c x w hlen h).mono ?_
        rintro e w' ⟨rfl, bn, v', h1, h2, h3, h4⟩
        exact ⟨rfl, v', _, _, 1, h1, h2, fun _ => Nat.le_refl _, by rw [cnt_snoc, cnt_snoc]; simp; omega⟩
    · have hl3 : l < 256 := by omega
      refine (push_room D g fs.length cap b l x (f l) w hl3 hl (by omega) hc2 (h.box.cell (i := 0) (by omega)) c0 f0 (hf.cell hl3) (hf.frozen l) hgb hf.lt hglt h.box.lt (by omega) (by omega)).mono ?_
      rintro e w' ⟨rfl, q, o, rfl⟩
      refine ⟨rfl, _, _, _, _, h.put hl3 _ o q, ?_, fun _ => by omega, by rw [cnt_snoc, cnt_snoc]; omega⟩
      have hk : Kept (fun k => B ≤ k ∨ k = D) w ((w.setCell ⟨b, l, none⟩ (.int .i64 x)).setCell ⟨g, fs.length, none⟩ (Hd b (l + 1))) :=
        ((Kept.refl _ w).setCell (x := ⟨b, l, none⟩) (Or.inl hbB) _).setCell (x := ⟨g, fs.length, none⟩) (Or.inl hB) _
      exact ⟨(hk.alloc o).os, (hk.alloc o).tape, (hk.alloc o).output, (hk.alloc o).size, (hk.alloc o).block⟩
end Go.Proofs.Ybulkdkkk.C
