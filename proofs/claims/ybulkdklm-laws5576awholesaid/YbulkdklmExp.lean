/-
  What stands while the law draws what it expects, and behind put.
-/
import Derived.Test.YbulkdklmPutAny
namespace Go.Proofs.Ybulkdklm.E
open Go.RowKit Go.Deep
set_option linter.unusedVariables false

abbrev num (n : Nat) : Value := .int .i64 (n : Int)

/-- A step that writes only rows of lengths. -/
theorem St.keep3 {W w w' : World} {n k : Nat} {lf : Nat → Nat} {v vf : Value} {L : List (Value × List Nat)} {F : List Nat} {p : Nat → Prop} (h : St W w n k lf v vf L F) (hk : Kept p w w')
    (hp : ∀ k, p k → W.heap.size + 2 ≤ k ∧ ∃ m f, w.rowIs k 3 m f) : St W w' n k lf v vf L F := by
  have hsz := h.base.size
  have hno : ∀ g m f, w.rowIs g 29 m f → ¬ p g := by
    intro g m f hr e
    obtain ⟨_, m', f', hr'⟩ := hp _ e
    have := rowIs_type hr hr'
    simp at this
  refine ⟨h.base.trans (hk.below hsz (fun k hk => by have := (hp k hk).1; omega)), h.idx.kept2 hk (fun e => by have := (hp _ e).1; omega) (fun g hg e => ?_), hk.rowIs h.lens (fun e => by have := (hp _ e).1; omega), fun x hx => ?_, hk.owns h.flat (fun g hg => ?_)⟩
  · obtain ⟨_, _, m, f, hr⟩ := own_row h.idx.own hg
    obtain ⟨_, m', f', hr'⟩ := hp _ e
    have := rowIs_type hr hr'
    simp at this
  · obtain ⟨g, e, hP, hne⟩ := h.page x hx
    refine ⟨g, e, hP.kept hk (fun k hk => ?_), hne⟩
    obtain ⟨_, _, m, f, hr⟩ := own_row hP.1 hk
    exact hno _ _ _ hr
  · obtain ⟨_, _, m, f, hr⟩ := own_row h.flat hg
    exact hno _ _ _ hr

theorem St.alloc {W w : World} {n k : Nat} {lf : Nat → Nat} {v vf : Value} {L : List (Value × List Nat)} {F : List Nat} (h : St W w n k lf v vf L F) (o : Obj) : St W (w.alloc o) n k lf v vf L F :=
  h.keep3 ((Kept.refl (fun _ => False) w).alloc o) (fun _ e => False.elim e)

/-- The lengths that are expected lie in a row of their own. -/
structure Ex (W w : World) (n : Nat) (lf : Nat → Nat) (v vf : Value) (L : List (Value × List Nat)) (F : List Nat) (e : Value) (E : List Nat) : Prop where
  st : St W w n n lf v vf L F
  own : w.ownsRow (W.heap.size + 2) 3 1 e E.length (E.map num)

theorem Ex.start {W w : World} {n : Nat} {lf : Nat → Nat} {v vf : Value} {L : List (Value × List Nat)} {F : List Nat} (h : St W w n n lf v vf L F) : Ex W w n lf v vf L F (.slice none 0 0) [] :=
  ⟨h, ⟨by simp, Or.inl ⟨rfl, rfl⟩⟩⟩

theorem Ex.alloc {W w : World} {n : Nat} {lf : Nat → Nat} {v vf : Value} {L : List (Value × List Nat)} {F : List Nat} {e : Value} {E : List Nat} (h : Ex W w n lf v vf L F e E) (o : Obj) : Ex W (w.alloc o) n lf v vf L F e E :=
  ⟨h.st.alloc o, ((Kept.refl (fun _ => False) w).alloc o).owns h.own (fun _ _ x => x)⟩

theorem Ex.next {W w w' : World} {n g cap m : Nat} {lf : Nat → Nat} {v vf : Value} {L : List (Value × List Nat)} {F : List Nat} {e : Value} {E A : List Nat} (h : Ex W w n lf v vf L F e E) (o : Obj) (hm : m = (E ++ A).length)
    (hown : w'.ownsRow (W.heap.size + 2) 3 1 (.slice (some ⟨g, 0, none⟩) m cap) m (E.map num ++ A.map num)) (hgrow : (w.alloc o).grownBy w' e.ownBlock) :
    Ex W w' n lf v vf L F (.slice (some ⟨g, 0, none⟩) m cap) (E ++ A) := by
  have hK : Kept (fun x => e.ownBlock = some x) w w' := ((Kept.refl _ w).alloc _).grown hgrow (fun x e => e)
  refine ⟨h.st.keep3 hK (fun k e => ?_), ?_⟩
  · obtain ⟨hB, _, m', f', hr⟩ := own_row h.own e
    exact ⟨hB, m', f', hr⟩
  · rw [List.map_append, ← hm]; exact hown

/-- The spans that are expected lie in a row of their own, too. -/
structure Ey (W w : World) (n : Nat) (lf : Nat → Nat) (v vf : Value) (L : List (Value × List Nat)) (F : List Nat) (e : Value) (E : List Nat) (y : Value) (Y : List Nat) : Prop where
  ex : Ex W w n lf v vf L F e E
  own : w.ownsRow (W.heap.size + 2) 29 1 y Y.length (Y.map ptr)
  far : ∀ g, y.ownBlock = some g → vf.ownBlock ≠ some g ∧ ∀ x ∈ L, x.1.ownBlock ≠ some g

theorem Ey.start {W w : World} {n c : Nat} {lf : Nat → Nat} {v vf : Value} {L : List (Value × List Nat)} {F : List Nat} {e : Value} {E : List Nat} (h : Ex W w n lf v vf L F e E) (hc : c ≤ maxLen) :
    Ey W (w.alloc (.cells (madeCells #[.pointer none] c) 29)) n lf v vf L F e E (.slice (some ⟨w.heap.size, 0, none⟩) 0 c) [] := by
  refine ⟨h.alloc _, World.ownsRow_made w _ c h.st.idx.room hc (by rw [size_madeCells]; omega), fun g hg => ?_⟩
  obtain rfl : w.heap.size = g := by simpa [Value.ownBlock] using hg
  refine ⟨fun e' => ?_, fun x hx e' => ?_⟩
  · have := (own_row h.st.flat e').2.1; omega
  · obtain ⟨g', _, hP, _⟩ := h.st.page x hx
    have := (own_row hP.1 e').2.1; omega

theorem Ey.next {W w w' : World} {n g cap m s : Nat} {lf : Nat → Nat} {v vf : Value} {L : List (Value × List Nat)} {F : List Nat} {e : Value} {E : List Nat} {y : Value} {Y : List Nat} (h : Ey W w n lf v vf L F e E y Y) (o : Obj) (hm : m = Y.length + 1)
    (hown : w'.ownsRow (W.heap.size + 2) 29 1 (.slice (some ⟨g, 0, none⟩) m cap) m (Y.map ptr ++ [ptr s])) (hgrow : (w.alloc o).grownBy w' y.ownBlock) (hat : y.ownBlock = some g ∨ g = w.heap.size + 1) :
    Ey W w' n lf v vf L F e E (.slice (some ⟨g, 0, none⟩) m cap) (Y ++ [s]) := by
  have hK : Kept (fun x => y.ownBlock = some x) w w' := ((Kept.refl _ w).alloc _).grown hgrow (fun x e => e)
  have hfl : ∀ k, y.ownBlock = some k → W.heap.size + 2 ≤ k ∧ (∃ m f, w.rowIs k 29 m f) ∧ ∀ x ∈ L, x.1.ownBlock ≠ some k := fun k e => by
    obtain ⟨hB, _, m', f', hr⟩ := own_row h.own e
    exact ⟨hB, ⟨m', f', hr⟩, (h.far k e).2⟩
  refine ⟨⟨h.ex.st.step hK hfl (hK.owns h.ex.st.flat (fun k hk e => (h.far k e).1 hk)) (Or.inl rfl), hK.owns h.ex.own (fun k hk e => ?_)⟩, ?_, fun k hk => ?_⟩
  · obtain ⟨_, _, m', f', hr⟩ := own_row h.ex.own hk
    obtain ⟨_, ⟨m2, f2, hr2⟩, _⟩ := hfl k e
    have := rowIs_type hr hr2
    simp at this
  · rw [List.map_append, List.length_append]
    have : Y.length + [s].length = m := by rw [hm]; rfl
    rw [this]; exact hown
  · obtain rfl : g = k := by simpa [Value.ownBlock] using hk
    rcases hat with e | e
    · exact h.far g e
    · refine ⟨fun e' => ?_, fun x hx e' => ?_⟩
      · have := (own_row h.ex.st.flat e').2.1; omega
      · obtain ⟨g', _, hP, _⟩ := h.ex.st.page x hx
        have := (own_row hP.1 e').2.1; omega

/-- What stands while the law compares. -/
structure Cmp (W w : World) (v : Value) (L : List (Value × List Nat)) (e : Value) (E : List Nat) (y : Value) (Y : List Nat) : Prop where
  base : Below W.heap.size W w
  aft : Aft w W.heap.size (W.heap.size + 2) v L E Y
  lens : w.ownsRow (W.heap.size + 2) 3 1 e E.length (E.map num)
  flat : w.ownsRow (W.heap.size + 2) 29 1 y Y.length (Y.map ptr)

theorem Ey.put {W w w' : World} {n : Nat} {lf : Nat → Nat} {v vf v' : Value} {L L' : List (Value × List Nat)} {F : List Nat} {e : Value} {E : List Nat} {y : Value} {Y : List Nat} (h : Ey W w n lf v vf L F e E y Y)
    (ha : Aft w' W.heap.size (W.heap.size + 2) v' L' E Y) (hk : Kept (Mine w W.heap.size) w w') : Cmp W w' v' L' e E y Y := by
  have hno : ∀ g t m f, w.rowIs g t m f → W.heap.size + 2 ≤ g → t ≠ 27 → ¬ Mine w W.heap.size g := by
    rintro g t m f hr hg ht (e | ⟨_, m', f', hr'⟩)
    · omega
    · exact ht (rowIs_type hr hr')
  refine ⟨h.ex.st.base.trans (hk.below h.ex.st.base.size ?_), ha, hk.owns h.ex.own (fun k hk => ?_), hk.owns h.own (fun k hk => ?_)⟩
  · rintro k (e | ⟨e, _⟩) <;> omega
  · obtain ⟨hB, _, m', f', hr⟩ := own_row h.ex.own hk
    exact hno _ _ _ _ hr hB (by simp)
  · obtain ⟨hB, _, m', f', hr⟩ := own_row h.own hk
    exact hno _ _ _ _ hr hB (by simp)

theorem own_alloc {w : World} {B n : Nat} {E : TypeId} {v : Value} {xs : List Value} (h : w.ownsRow B E 1 v n xs) (o : Obj) : (w.alloc o).ownsRow B E 1 v n xs :=
  ((Kept.refl (fun _ => False) w).alloc o).owns h (fun _ _ x => x)

theorem own_cell {w : World} {B n i : Nat} {E : TypeId} {v : Value} {xs : List Value} (h : w.ownsRow B E 1 v n xs) (hi : i < n) : ∃ g cap, v = .slice (some ⟨g, 0, none⟩) n cap ∧ w.cell? ⟨g, i, none⟩ = some (xs.getD i undef) := by
  rcases h.2 with ⟨_, h2⟩ | ⟨g, cap, cur, rfl, hB, r⟩
  · omega
  · obtain ⟨f, hr, hx, _, hnc, _⟩ := row_of_own h
    refine ⟨g, cap, rfl, ?_⟩
    rw [hr.cell (by omega)]
    have := hx i hi
    rw [List.getD_eq_getElem?_getD, this]; rfl

theorem Cmp.sums {W w : World} {v : Value} {L : List (Value × List Nat)} {e : Value} {E : List Nat} {y : Value} {Y : List Nat} (h : Cmp W w v L e E y Y) : Y.length = E.sum := by
  rw [← h.aft.flat, ← h.aft.lens, List.length_flatten]

theorem Cmp.drew {W w : World} {v : Value} {L : List (Value × List Nat)} {e : Value} {E : List Nat} {y : Value} {Y : List Nat} (h : Cmp W w v L e E y Y) : Cmp W w.drew v L e E y Y := by
  have hk : Kept (fun _ => False) w w.drew := (Kept.refl _ w).drew
  exact ⟨h.base.trans (hk.below h.base.size (fun k e => False.elim e)), ⟨h.aft.idx.kept2 hk (fun x => x) (fun _ _ x => x), fun x hx => (h.aft.page x hx).kept hk (fun _ _ x => x), h.aft.lens, h.aft.flat⟩, hk.owns h.lens (fun _ _ x => x), hk.owns h.flat (fun _ _ x => x)⟩

theorem Cmp.at {W w : World} {v : Value} {L : List (Value × List Nat)} {e : Value} {E : List Nat} {y : Value} {Y : List Nat} (h : Cmp W w v L e E y Y) {i : Nat} (hi : i < E.length) :
    ∃ gv cv ge ce gp cp lp, v = .slice (some ⟨gv, 0, none⟩) E.length cv ∧ e = .slice (some ⟨ge, 0, none⟩) E.length ce ∧ w.cell? ⟨W.heap.size, 0, none⟩ = some v ∧ w.cell? ⟨gv, i, none⟩ = some (.slice (some ⟨gp, 0, none⟩) lp cp) ∧ w.cell? ⟨ge, i, none⟩ = some (num lp) ∧
      (E.take (i + 1)).sum = (E.take i).sum + lp ∧ (E.take i).sum + lp ≤ Y.length ∧
      ∀ jj, jj < lp → ∃ gy cy b, y = .slice (some ⟨gy, 0, none⟩) Y.length cy ∧ w.cell? ⟨gp, jj, none⟩ = some (ptr b) ∧ w.cell? ⟨gy, (E.take i).sum + jj, none⟩ = some (ptr b) := by
  have hl : L.length = E.length := by
    have := congrArg List.length h.aft.lens
    simpa using this
  obtain ⟨gv, cv, hv, _, _, _, hcell, _⟩ := h.aft.idx.shape (by rw [List.length_map]; omega)
  rw [List.length_map, hl] at hv
  obtain ⟨ge, ce, he, hce⟩ := own_cell h.lens hi
  obtain ⟨x, hx⟩ : ∃ x, L[i]? = some x := ⟨_, List.getElem?_eq_getElem (by omega)⟩
  have hP := h.aft.page x (List.mem_of_getElem? hx)
  obtain ⟨gp, cp, hg, _, f, hr, hf, hcl, _⟩ := hP.shape
  have hE : E[i]? = some x.2.length := by rw [← h.aft.lens, List.getElem?_map, List.getElem?_map, hx]; rfl
  have hQ : (L.map (·.2)).getD i [] = x.2 := by rw [List.getD_eq_getElem?_getD, List.getElem?_map, hx]; rfl
  have hsum : (E.take (i + 1)).sum = (E.take i).sum + x.2.length := by
    rw [List.take_add_one, hE, List.sum_append]; simp
  have htot : (E.take i).sum + x.2.length ≤ Y.length := by
    have h1 := congrArg List.sum (List.take_append_drop (i + 1) E)
    rw [List.sum_append, hsum] at h1
    rw [h.sums]; omega
  refine ⟨gv, cv, ge, ce, gp, cp, x.2.length, hv, he, h.aft.idx.box.cell (by omega), ?_, ?_, hsum, htot, fun jj hj => ?_⟩
  · rw [hcell i (by rw [List.length_map]; omega), List.getD_eq_getElem?_getD, List.getElem?_map, hx, ← hg]; rfl
  · rw [hce, List.getD_eq_getElem?_getD, List.getElem?_map, hE]; rfl
  · obtain ⟨gy, cy, hy, hcy⟩ := own_cell h.flat (i := (E.take i).sum + jj) (by omega)
    refine ⟨gy, cy, x.2.getD jj 0, hy, ?_, ?_⟩
    · rw [hr.cell (by omega), hf jj hj]
    · have := flat_get (L.map (·.2)) i jj (by rw [List.length_map]; omega) (by rw [hQ]; exact hj)
      rw [hQ, List.map_take, h.aft.lens, h.aft.flat, List.getElem?_eq_getElem hj] at this
      rw [hcy, List.getD_eq_getElem?_getD, List.getElem?_map, this, List.getD_eq_getElem?_getD, List.getElem?_eq_getElem hj]; rfl
end Go.Proofs.Ybulkdklm.E
