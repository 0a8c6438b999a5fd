/-
  What a deep[int] of the call's own holds in memory ('Own'), and what each thing that the methods do to memory makes of it. No walk here.
-/
import Derived.Test.YbulkdkkkReset
import Derived.OneCell
import Derived.WalkSmall
namespace Go.Proofs.Ybulkdkkk.C
open Go.RowKit Go.Deep
set_option linter.unusedVariables false

/-- The header of a block of 256 ints that lies at block b. -/
abbrev Hd (b l : Nat) : Value := .slice (some ⟨b, 0, none⟩) l 256

/-- The headers of the blocks bs: each full but the last, which holds l entries. -/
def hdrs (bs : List Nat) (l : Nat) : List Value := bs.dropLast.map (fun b => Hd b 256) ++ bs.getLast?.toList.map (fun b => Hd b l)

theorem hdrs_nil (l : Nat) : hdrs [] l = [] := rfl
theorem hdrs_snoc (fs : List Nat) (b l : Nat) : hdrs (fs ++ [b]) l = fs.map (fun b => Hd b 256) ++ [Hd b l] := by simp [hdrs]
theorem hdrs_full (bs : List Nat) : hdrs bs 256 = bs.map (fun b => Hd b 256) := by
  rcases List.eq_nil_or_concat bs with rfl | ⟨fs, b, rfl⟩
  · rfl
  · rw [List.concat_eq_append, hdrs_snoc]; simp

/-- A block of 256 ints of the call's own. -/
def Blk (w : World) (B b : Nat) : Prop := B ≤ b ∧ ∃ f, w.rowIs b 3 256 f

theorem Blk.kept {p : Nat → Prop} {w w' : World} {B b : Nat} (h : Blk w B b) (hk : Kept p w w') (hb : ¬ p b) : Blk w' B b := by
  obtain ⟨h1, f, h2⟩ := h
  exact ⟨h1, f, hk.rowIs h2 hb⟩

theorem Blk.setCell {w : World} {B b : Nat} (h : Blk w B b) (c i : Nat) (u : Value) : Blk (w.setCell ⟨c, i, none⟩ u) B b := by
  obtain ⟨h1, f, h2⟩ := h
  by_cases e : b = c
  · subst e; exact ⟨h1, _, h2.set i u⟩
  · exact ⟨h1, _, h2.setOther e u⟩

theorem Blk.alloc {w : World} {B b : Nat} (h : Blk w B b) (o : Obj) : Blk (w.alloc o) B b := by
  obtain ⟨h1, f, h2⟩ := h
  exact ⟨h1, f, h2.alloc o⟩

theorem Blk.drewN {w : World} {B b : Nat} (h : Blk w B b) (q : Nat) : Blk (w.drewN q) B b := h

theorem Blk.lt {w : World} {B b : Nat} (h : Blk w B b) : b < w.heap.size := by
  obtain ⟨h1, f, h2⟩ := h
  exact h2.lt

/-- A row of headers and a block of ints are two blocks. -/
theorem Blk.ne {w : World} {B b g : Nat} (h : Blk w B b) {cur : Array Value} (hg : w.heap[g]? = some (.cells cur 25 (0, 0))) : g ≠ b := by
  obtain ⟨h1, f, c, h2, _⟩ := h
  rintro rfl
  rw [hg] at h2
  simp at h2

/-- What lies in memory: the struct at block D, the row of headers, the blocks, the spare. -/
structure Own (w : World) (D B : Nat) (v sv : Value) (bs : List Nat) (l : Nat) : Prop where
  dlt : D < B
  room : B ≤ w.heap.size
  box : w.rowIs D 30 2 (fun i => if i = 0 then v else sv)
  own : w.ownsRow B 25 1 v bs.length (hdrs bs l)
  blk : ∀ x, x ∈ bs → Blk w B x
  sp : sv = .slice none 0 0 ∨ ∃ b, sv = Hd b 0 ∧ Blk w B b
  len : bs ≠ [] → l ≤ 256

/-- How many entries. -/
def cnt (bs : List Nat) (l : Nat) : Nat := 256 * (bs.length - 1) + (if bs = [] then 0 else l)

theorem cnt_snoc (fs : List Nat) (b l : Nat) : cnt (fs ++ [b]) l = 256 * fs.length + l := by simp [cnt]
theorem cnt_nil (l : Nat) : cnt [] l = 0 := rfl

theorem rowIs_drewN {w : World} {b : Nat} {t : TypeId} {n : Nat} {f : Nat → Value} (h : w.rowIs b t n f) (q : Nat) : (w.drewN q).rowIs b t n f := h
theorem owns_drewN {w : World} {B : Nat} {e : TypeId} {v : Value} {n : Nat} {xs : List Value} (h : w.ownsRow B e 1 v n xs) (q : Nat) : (w.drewN q).ownsRow B e 1 v n xs := h

/-- The shape of the row of headers where there is one. -/
theorem Own.shape {w : World} {D B : Nat} {v sv : Value} {fs : List Nat} {b l : Nat} (h : Own w D B v sv (fs ++ [b]) l) :
    ∃ g cap cur, v = .slice (some ⟨g, 0, none⟩) (fs.length + 1) cap ∧ B ≤ g ∧ w.heap[g]? = some (.cells cur 25 (0, 0)) ∧ fs.length + 1 ≤ cap ∧ cap ≤ 9223372036854775807 ∧ cur.size = cap ∧ g ≠ b ∧ g < w.heap.size ∧
      w.cell? ⟨g, fs.length, none⟩ = some (Hd b l) ∧ w.frozen? ⟨g, fs.length, none⟩ = false := by
  have ho := h.own
  rw [hdrs_snoc, List.length_append, List.length_singleton] at ho
  rcases ho.2 with ⟨_, h2⟩ | ⟨g, cap, cur, hv, hB, hg, hn, hc, hs, ht⟩
  · omega
  · subst hv
    refine ⟨g, cap, cur, rfl, hB, hg, hn, by simpa [maxLen] using hc, by simpa using hs, (h.blk b (by simp)).ne hg, (Array.getElem?_eq_some_iff.1 hg).1, ?_, ho.frozenAt _⟩
    rw [ho.cellAt fs.length (by omega)]
    simp

theorem owns_other {w : World} {B : Nat} {v : Value} {n : Nat} {xs : List Value} {g cap : Nat} (h : w.ownsRow B 25 1 (.slice (some ⟨g, 0, none⟩) n cap) n xs) {c i : Nat} (hc : g ≠ c) (u : Value) :
    (w.setCell ⟨c, i, none⟩ u).ownsRow B 25 1 (.slice (some ⟨g, 0, none⟩) n cap) n xs := by
  refine ⟨h.1, ?_⟩
  rcases h.2 with h2 | ⟨g', cap', cur, hv, hB, hg, r⟩
  · exact Or.inl h2
  · cases hv
    exact Or.inr ⟨g, cap, cur, rfl, hB, by rw [Below.heap_setCell _ _ _ _ hc]; exact hg, r⟩

/-- 'd.blocks[n-1] = append(d.blocks[n-1], v)', there is room. -/
theorem Own.put {w : World} {D B : Nat} {sv : Value} {fs : List Nat} {b l g cap : Nat} (h : Own w D B (.slice (some ⟨g, 0, none⟩) (fs.length + 1) cap) sv (fs ++ [b]) l) (hl : l < 256) (x : Value) (o : Obj) (q : Nat) :
    Own ((((w.setCell ⟨b, l, none⟩ x).setCell ⟨g, fs.length, none⟩ (Hd b (l + 1))).alloc o).drewN q) D B (.slice (some ⟨g, 0, none⟩) (fs.length + 1) cap) sv (fs ++ [b]) (l + 1) := by
  obtain ⟨g', cap', cur, hv, hB, hg, _, _, _, hgb, _, _, _⟩ := h.shape
  simp only [Value.slice.injEq, Option.some.injEq, Addr.mk.injEq, and_true, true_and] at hv
  obtain ⟨rfl, rfl⟩ := hv
  have hbB := (h.blk b (by simp)).1
  have hd := h.dlt
  have ho := h.own
  rw [hdrs_snoc, List.length_append, List.length_singleton] at ho
  refine ⟨hd, by have := h.room; show _ ≤ (World.alloc _ o).heap.size; simp; omega, ?_, ?_, fun y hy => ?_, ?_, fun _ => by omega⟩
  · exact rowIs_drewN (((h.box.setOther (by show D ≠ b; omega) _).setOther (by show D ≠ g; omega) _).alloc _) q
  · rw [hdrs_snoc, List.length_append, List.length_singleton]
    have h1 := (owns_other (v := .slice none 0 0) (c := b) (i := l) ho hgb x)
    have h2 := (h1.stored fs.length (Hd b (l + 1))).1
    rw [List.set_append_right _ _ (by simp)] at h2
    simp only [List.length_map, Nat.sub_self, List.set_cons_zero] at h2
    exact owns_drewN (h2.alloc o) q
  · exact ((((h.blk y hy).setCell _ _ _).setCell _ _ _).alloc _).drewN q
  · rcases h.sp with h0 | ⟨c, h1, h2⟩
    · exact Or.inl h0
    · exact Or.inr ⟨c, h1, (((h2.setCell _ _ _).setCell _ _ _).alloc _).drewN q⟩
theorem Own.shape' {w : World} {D B : Nat} {v sv : Value} {fs : List Nat} {b l : Nat} (m : Nat) (hm : fs.length = m) (h : Own w D B v sv (fs ++ [b]) l) :
    ∃ g cap cur, v = .slice (some ⟨g, 0, none⟩) (m + 1) cap ∧ B ≤ g ∧ w.heap[g]? = some (.cells cur 25 (0, 0)) ∧ m + 1 ≤ cap ∧ cap ≤ 9223372036854775807 ∧ cur.size = cap ∧ g ≠ b ∧ g < w.heap.size ∧
      w.cell? ⟨g, m, none⟩ = some (Hd b l) ∧ w.frozen? ⟨g, m, none⟩ = false := by
  subst hm; exact h.shape

theorem Own.put' {w : World} {D B : Nat} {sv : Value} {fs : List Nat} {b l g cap : Nat} (m : Nat) (hm : fs.length = m) (h : Own w D B (.slice (some ⟨g, 0, none⟩) (m + 1) cap) sv (fs ++ [b]) l) (hl : l < 256) (x : Value) (o : Obj) (q : Nat) :
    Own ((((w.setCell ⟨b, l, none⟩ x).setCell ⟨g, m, none⟩ (Hd b (l + 1))).alloc o).drewN q) D B (.slice (some ⟨g, 0, none⟩) (m + 1) cap) sv (fs ++ [b]) (l + 1) := by
  subst hm; exact h.put hl x o q

/-- 'd.blocks, d.spare = append(d.blocks, b), nil'. -/
theorem Own.push_block {w w0 w1 : World} {D B : Nat} {v sv v' : Value} {bs : List Nat} {l bn : Nat} (h : Own w D B v sv bs l) (hfull : bs = [] ∨ l = 256) (hk : Kept (fun _ => False) w w0) (hbn : Blk w0 B bn)
    (hown : w1.ownsRow B 25 1 v' (bs.length + 1) (hdrs bs l ++ [Hd bn 0])) (hg : w0.grownBy w1 v.ownBlock) :
    Own ((w1.setCell ⟨D, 0, none⟩ v').setCell ⟨D, 1, none⟩ (.slice none 0 0)) D B v' (.slice none 0 0) (bs ++ [bn]) 0 ∧
      Kept (fun k => B ≤ k ∨ k = D) w ((w1.setCell ⟨D, 0, none⟩ v').setCell ⟨D, 1, none⟩ (.slice none 0 0)) := by
  have hd := h.dlt
  have hrow : ∀ k, v.ownBlock = some k → B ≤ k ∧ ∃ cur, w0.heap[k]? = some (.cells cur 25 (0, 0)) := by
    intro k hk'
    rcases h.own.2 with ⟨rfl, _⟩ | ⟨g, cap, cur, rfl, hB, hg', r⟩
    · simp [Value.ownBlock] at hk'
    · simp [Value.ownBlock] at hk'
      subst hk'
      exact ⟨hB, cur, (hk.block _ (Array.getElem?_eq_some_iff.1 hg').1 (fun x => x)).trans hg'⟩
  have hblk : ∀ y, Blk w0 B y → Blk w1 B y := fun y hy => by
    obtain ⟨h1, f, h2⟩ := hy
    refine ⟨h1, f, h2.of_block (hg.block y h2.lt (fun e => ?_))⟩
    obtain ⟨_, cur, hc⟩ := hrow y e.symm
    exact Blk.ne ⟨h1, f, h2⟩ hc rfl
  have e : hdrs bs l ++ [Hd bn 0] = hdrs (bs ++ [bn]) 0 := by
    rw [hdrs_snoc]
    rcases hfull with rfl | rfl
    · rfl
    · rw [hdrs_full]
  have hDD : D < w0.heap.size := Nat.lt_of_lt_of_le h.box.lt hk.size
  have hbox : w1.rowIs D 30 2 (fun i => if i = 0 then v else sv) := by
    refine (hk.rowIs h.box (fun x => x)).of_block (hg.block D hDD (fun e => ?_))
    have := (hrow D e.symm).1
    omega
  obtain ⟨g, cap, cur, rfl, hB, hgg, r⟩ : ∃ g cap cur, v' = .slice (some ⟨g, 0, none⟩) (bs.length + 1) cap ∧ B ≤ g ∧ w1.heap[g]? = some (.cells cur 25 (0, 0)) ∧ True := by
    rcases hown.2 with ⟨_, h2⟩ | ⟨g, cap, cur, hv, hB, hg', r⟩
    · omega
    · exact ⟨g, cap, cur, hv, hB, hg', trivial⟩
  refine ⟨⟨hd, by have := h.room; have := hk.size; have := hg.size; simp; omega, ?_, ?_, fun y hy => ?_, Or.inl rfl, fun _ => by omega⟩, ?_⟩
  · exact ((hbox.set 0 _).set 1 _).congr (fun i hi => by
      match i, hi with
      | 0, _ => rfl
      | 1, _ => rfl)
  · rw [List.length_append, List.length_singleton, ← e]
    exact owns_other (v := .slice none 0 0) (owns_other (v := .slice none 0 0) hown (by omega) _) (by omega) _
  · refine Blk.setCell (Blk.setCell (hblk y ?_) _ _ _) _ _ _
    rcases List.mem_append.1 hy with h1 | h1
    · exact (h.blk y h1).kept hk (fun x => x)
    · rw [List.mem_singleton.1 h1]; exact hbn
  · have hk1 : Kept (fun k => B ≤ k ∨ k = D) w w1 := (hk.mono (fun _ x => False.elim x)).grown hg (fun k hk' => Or.inl (hrow k hk').1)
    exact (hk1.setCell (x := ⟨D, 0, none⟩) (Or.inr rfl) _).setCell (x := ⟨D, 1, none⟩) (Or.inr rfl) _

/-- What make([]int, 0, 256) lays. -/
def Z256 : Array Value := madeCells #[.int .i64 0] 256
theorem info3' : (Yba.prog.info? 3).map (fun i => (i.zero, i.size, i.bytes)) = some (some (.int .i64 0), 1, 8) := by kernel_rfl
theorem make_256 (w : World) : (Instr.makeSlice 25 (.int .i64 0) (.int .i64 256)).run Yba.prog w = .ok (.slice (some ⟨w.heap.size, 0, none⟩) 0 256) (w.alloc (.cells Z256 3)) := by
  obtain ⟨i, hi, h1, h2, h3⟩ := info_parts info3'
  have h := run_make (P := Yba.prog) w 25 3 i (.int .i64 0) Yba.underlying25 hi h1 .i64 .i64 0 256 (by omega) (by omega) (by rw [h3]; decide) (by omega)
  rw [h2] at h
  exact h
theorem blk_made (w : World) (B : Nat) (h : B ≤ w.heap.size) : Blk (w.alloc (.cells Z256 3)) B w.heap.size :=
  ⟨h, _, World.rowIs_made w _ 256 3⟩
end Go.Proofs.Ybulkdkkk.C
