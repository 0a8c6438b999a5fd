/-
  What stands while the law builds its index: the state, and how each step keeps it.
-/
import Derived.Test.YbulkdklmAdd
import Derived.Below
namespace Go.Proofs.Ybulkdklm.E
open Go.RowKit Go.Deep
set_option linter.unusedVariables false

theorem own_row {w : World} {B n g : Nat} {E : TypeId} {v : Value} {xs : List Value} (h : w.ownsRow B E 1 v n xs) (hv : v.ownBlock = some g) : B ≤ g ∧ g < w.heap.size ∧ ∃ m f, w.rowIs g E m f := by
  rcases h.2 with ⟨e, _⟩ | ⟨g', cap, cur, rfl, hB, _⟩
  · rw [e] at hv; cases hv
  · cases hv
    obtain ⟨f, hr, _⟩ := row_of_own h
    exact ⟨hB, hr.lt, _, _, hr⟩

theorem Idx.kept2 {w w' : World} {D B : Nat} {v : Value} {hs : List Value} {p : Nat → Prop} (h : Idx w D B v hs) (hk : Kept p w w') (h1 : ¬ p D) (h2 : ∀ g, v.ownBlock = some g → ¬ p g) : Idx w' D B v hs :=
  ⟨h.dlt, Nat.le_trans h.room hk.size, hk.rowIs h.box h1, hk.owns h.own h2⟩

/-- The state: W the world that the law was called in, w now; the index lies at W's end, the lengths behind it (k of n laid), the pages L, the flat list vf with the spans F. -/
structure St (W w : World) (n k : Nat) (lf : Nat → Nat) (v vf : Value) (L : List (Value × List Nat)) (F : List Nat) : Prop where
  base : Below W.heap.size W w
  idx : Idx w W.heap.size (W.heap.size + 2) v (L.map (·.1))
  lens : w.rowIs (W.heap.size + 1) 3 n (fun i => .int .i64 (if i < k then ((lf i : Nat) : Int) else 0))
  page : ∀ x ∈ L, ∃ g, x.1 = .slice (some ⟨g, 0, none⟩) x.2.length x.2.length ∧ Pg w (W.heap.size + 2) x.1 x.2 ∧ vf.ownBlock ≠ some g
  flat : w.ownsRow (W.heap.size + 2) 29 1 vf F.length (F.map ptr)

/-- A step that writes only the flat list and rows of spans that are no page's. -/
theorem St.step {W w w' : World} {n k : Nat} {lf : Nat → Nat} {v vf vf' : Value} {L : List (Value × List Nat)} {F F' : List Nat} {p : Nat → Prop} (h : St W w n k lf v vf L F) (hk : Kept p w w')
    (hp : ∀ k, p k → W.heap.size + 2 ≤ k ∧ (∃ m f, w.rowIs k 29 m f) ∧ ∀ x ∈ L, x.1.ownBlock ≠ some k)
    (hf : w'.ownsRow (W.heap.size + 2) 29 1 vf' F'.length (F'.map ptr)) (hb : vf'.ownBlock = vf.ownBlock ∨ ∃ H, vf'.ownBlock = some H ∧ w.heap.size ≤ H) : St W w' n k lf v vf' L F' := by
  have hsz := h.base.size
  refine ⟨h.base.trans (hk.below hsz (fun k hk => by have := (hp k hk).1; omega)), h.idx.kept2 hk (fun e => by have := (hp _ e).1; omega) (fun g hg e => ?_), hk.rowIs h.lens (fun e => by have := (hp _ e).1; omega), fun x hx => ?_, hf⟩
  · obtain ⟨_, _, m, f, hr⟩ := own_row h.idx.own hg
    obtain ⟨_, ⟨m', f', hr'⟩, _⟩ := hp _ e
    have := rowIs_type hr hr'
    simp at this
  · obtain ⟨g, e, hP, hne⟩ := h.page x hx
    refine ⟨g, e, hP.kept hk (fun k hk e' => (hp k e').2.2 x hx hk), ?_⟩
    rcases hb with hb | ⟨H, hb, hH⟩
    · rw [hb]; exact hne
    · rw [hb]
      intro e'
      have hg : x.1.ownBlock = some g := by rw [e]; rfl
      obtain ⟨_, hlt, _⟩ := own_row hP.1 hg
      simp at e'; omega

/-- A page laid behind the others. -/
theorem St.push {W w w' : World} {n k P m : Nat} {lf : Nat → Nat} {v vf v' : Value} {L : List (Value × List Nat)} {F qs : List Nat} {p : Nat → Prop} (h : St W w n k lf v vf L F) (hk : Kept p w w')
    (hp : ∀ k, p k → k = W.heap.size ∨ v.ownBlock = some k)
    (hpg : w.rowIs P 29 m (fun i => if i < m then ptr (qs.getD i 0) else .pointer none)) (hq : qs.length = m) (hm : 1 ≤ m) (hm2 : m ≤ 128) (hPB : W.heap.size + 2 ≤ P) (hne : vf.ownBlock ≠ some P)
    (hbox : w'.rowIs W.heap.size 26 1 (fun _ => v')) (hown : w'.ownsRow (W.heap.size + 2) 27 1 v' (L.length + 1) (L.map (·.1) ++ [.slice (some ⟨P, 0, none⟩) m m])) :
    St W w' n k lf v' vf (L ++ [(.slice (some ⟨P, 0, none⟩) m m, qs)]) F := by
  have hsz := h.base.size
  have hnp : ∀ g m' f', w.rowIs g 29 m' f' → g ≠ W.heap.size → ¬ p g := by
    intro g m' f' hr hg e
    rcases hp g e with e | e
    · exact hg e
    · obtain ⟨_, _, m2, f2, hr2⟩ := own_row h.idx.own e
      have := rowIs_type hr hr2
      simp at this
  have hpB : ∀ k, p k → W.heap.size ≤ k := by
    intro k e
    rcases hp k e with e | e
    · omega
    · have := (own_row h.idx.own e).1; omega
  have hPg : Pg w' (W.heap.size + 2) (.slice (some ⟨P, 0, none⟩) m m) qs := by
    refine ⟨hk.owns ?_ (fun k e => ?_), fun e => by rw [e] at hq; have : 0 = m := hq; omega⟩
    · rw [hq]
      refine own_of_row hpg (fun j hj => ?_) (by rw [List.length_map, hq]) hPB (by omega) (by omega)
      rw [if_pos (by omega), List.getElem?_map, List.getD_eq_getElem?_getD, List.getElem?_eq_getElem (by omega)]; rfl
    · simp [Value.ownBlock] at e
      subst e
      exact hnp _ _ _ hpg (by omega)
  refine ⟨h.base.trans (hk.below hsz hpB), ⟨h.idx.dlt, Nat.le_trans h.idx.room hk.size, hbox, ?_⟩, hk.rowIs h.lens (fun e => ?_), fun x hx => ?_, hk.owns h.flat (fun g hg => ?_)⟩
  · rw [List.map_append, List.length_append, List.length_map]
    exact hown
  · rcases hp _ e with e | e
    · omega
    · obtain ⟨hge, _⟩ := own_row h.idx.own e
      omega
  · rcases List.mem_append.1 hx with hx | hx
    · obtain ⟨g, e, hP, hne'⟩ := h.page x hx
      refine ⟨g, e, hP.kept hk (fun k hk' => ?_), hne'⟩
      obtain ⟨hB, _, m', f', hr⟩ := own_row hP.1 hk'
      exact hnp _ _ _ hr (by omega)
    · obtain rfl : x = _ := by simpa using hx
      exact ⟨P, by rw [hq], hPg, hne⟩
  · obtain ⟨hB, _, m', f', hr⟩ := own_row h.flat hg
    exact hnp _ _ _ hr (by omega)

/-- The inner loop's state: the page being filled lies at P, j spans of m laid. -/
structure Fill (W w : World) (n k P m j : Nat) (lf : Nat → Nat) (v vf : Value) (L : List (Value × List Nat)) (F qs : List Nat) : Prop where
  st : St W w n k lf v vf L (F ++ qs)
  row : w.rowIs P 29 m (fun i => if i < j then ptr (qs.getD i 0) else .pointer none)
  len : qs.length = j
  far : vf.ownBlock ≠ some P
  here : W.heap.size + 2 ≤ P
  other : ∀ x ∈ L, x.1.ownBlock ≠ some P

/-- The world behind a span that is laid: its box, its place in the page, the list for 'append'. -/
abbrev laidAt (w : World) (P j : Nat) (o : Obj) : World := ((w.setCell ⟨P, j, none⟩ (ptr w.heap.size)).alloc o).alloc (.cells #[ptr w.heap.size] 29)

theorem Fill.owns {W w : World} {n k P m j : Nat} {lf : Nat → Nat} {v vf : Value} {L : List (Value × List Nat)} {F qs : List Nat} (h : Fill W w n k P m j lf v vf L F qs) (o : Obj) :
    (laidAt w P j o).ownsRow (W.heap.size + 2) 29 1 vf (F ++ qs).length ((F ++ qs).map ptr) ∧ (∀ i u, [ptr w.heap.size][i]? = some u → (laidAt w P j o).cell? ((⟨w.heap.size + 1, 0, none⟩ : Addr).add i) = some u) ∧ W.heap.size + 2 ≤ (laidAt w P j o).heap.size := by
  have hK : Kept (fun k => k = P) w (laidAt w P j o) := ((Kept.setCell (p := fun k => k = P) (Kept.refl _ w) (x := ⟨P, j, none⟩) rfl _).alloc o).alloc _
  refine ⟨hK.owns h.st.flat (fun g hg e => h.far (e ▸ hg)), fun i u hu => ?_, Nat.le_trans h.st.idx.room hK.size⟩
  have hs : ((w.setCell ⟨P, j, none⟩ (ptr w.heap.size)).alloc o).heap.size = w.heap.size + 1 := by simp
  have hr := World.rowIs_alloc ((w.setCell ⟨P, j, none⟩ (ptr w.heap.size)).alloc o) #[ptr w.heap.size] 29 (fun _ => ptr w.heap.size) (fun i hi => by
    have : i = 0 := by simpa using hi
    subst this; rfl)
  have : i = 0 := by
    have := (List.getElem?_eq_some_iff.1 hu).1
    simpa using this
  subst this
  rw [Addr.add_lit, ← hs]
  have e : ptr w.heap.size = u := by simpa using hu
  rw [← e]
  exact hr.cell (i := 0) (by simp)

theorem Fill.next {W w w' : World} {n k P m j g cap : Nat} {lf : Nat → Nat} {v vf : Value} {L : List (Value × List Nat)} {F qs : List Nat} (h : Fill W w n k P m j lf v vf L F qs) (o : Obj) (hj : j < m)
    (hown : w'.ownsRow (W.heap.size + 2) 29 1 (.slice (some ⟨g, 0, none⟩) ((F ++ qs).length + 1) cap) ((F ++ qs).length + 1) ((F ++ qs).map ptr ++ [ptr w.heap.size])) (hgrow : (laidAt w P j o).grownBy w' vf.ownBlock) (hat : vf.ownBlock = some g ∨ g = w.heap.size + 2) :
    Fill W w' n k P m (j + 1) lf v (.slice (some ⟨g, 0, none⟩) ((F ++ qs).length + 1) cap) L F (qs ++ [w.heap.size]) := by
  have hK0 : Kept (fun k => k = P) w (laidAt w P j o) := ((Kept.setCell (p := fun k => k = P) (Kept.refl _ w) (x := ⟨P, j, none⟩) rfl _).alloc o).alloc _
  have hK : Kept (fun k => k = P ∨ vf.ownBlock = some k) w w' := (hK0.mono (fun k e => Or.inl e)).grown hgrow (fun k e => Or.inr e)
  have hlt := h.row.lt
  refine ⟨?_, ?_, by simp [h.len], ?_, h.here, h.other⟩
  · refine h.st.step hK (fun k e => ?_) ?_ ?_
    · rcases e with rfl | e
      · exact ⟨h.here, ⟨_, _, h.row⟩, h.other⟩
      · obtain ⟨hB, _, m', f', hr⟩ := own_row h.st.flat e
        refine ⟨hB, ⟨m', f', hr⟩, fun x hx e' => ?_⟩
        obtain ⟨g', e1, _, hne⟩ := h.st.page x hx
        rw [e1] at e'
        simp [Value.ownBlock] at e'
        subst e'
        exact hne e
    · have e1 : (F ++ (qs ++ [w.heap.size])).length = (F ++ qs).length + 1 := by simp; omega
      have e2 : (F ++ (qs ++ [w.heap.size])).map ptr = (F ++ qs).map ptr ++ [ptr w.heap.size] := by simp
      rw [e1, e2]
      exact hown
    · rcases hat with e | e
      · left; rw [e]; rfl
      · right; exact ⟨g, rfl, by omega⟩
  · have hrow : (laidAt w P j o).rowIs P 29 m _ := ((h.row.set j (ptr w.heap.size)).alloc o).alloc (.cells #[ptr w.heap.size] 29)
    have hb := hgrow.block P hrow.lt (fun e => h.far e.symm)
    refine (hrow.of_block hb).congr (fun i hi => ?_)
    have hl := h.len
    by_cases e : i = j
    · subst e
      rw [if_pos rfl, if_pos (by omega), List.getD_eq_getElem?_getD, List.getElem?_append_right (by omega), hl, Nat.sub_self]; rfl
    · rw [if_neg e]
      by_cases e2 : i < j
      · rw [if_pos e2, if_pos (by omega), List.getD_eq_getElem?_getD, List.getD_eq_getElem?_getD, List.getElem?_append_left (by omega)]
      · rw [if_neg e2, if_neg (by omega)]
  · rcases hat with e | e
    · have := h.far
      rw [e] at this
      exact this
    · intro e'
      simp [Value.ownBlock] at e'
      omega

/-- A page is made. -/
theorem St.fill {W w : World} {n k m : Nat} {lf : Nat → Nat} {v vf : Value} {L : List (Value × List Nat)} {F : List Nat} (h : St W w n k lf v vf L F) :
    Fill W (w.alloc (.cells (madeCells #[.pointer none] m) 29)) n k w.heap.size m 0 lf v vf L F [] := by
  have hK : Kept (fun _ => False) w (w.alloc (.cells (madeCells #[.pointer none] m) 29)) := (Kept.refl _ w).alloc _
  refine ⟨?_, (World.rowIs_made w (.pointer none) m 29).congr (fun i _ => by rw [if_neg (by omega)]), rfl, ?_, h.idx.room, ?_⟩
  · rw [List.append_nil]
    exact h.step hK (fun _ e => False.elim e) (hK.owns h.flat (fun _ _ e => e)) (Or.inl rfl)
  · intro e
    have := (own_row h.flat e).2.1
    omega
  · intro x hx e
    obtain ⟨g, e1, hP, _⟩ := h.page x hx
    have := (own_row hP.1 e).2.1
    omega

/-- A length is laid. -/
theorem St.lay {W w : World} {n k : Nat} {lf : Nat → Nat} {v vf : Value} {L : List (Value × List Nat)} {F : List Nat} (h : St W w n k lf v vf L F) (hk : k < n) :
    St W (w.setCell ⟨W.heap.size + 1, k, none⟩ (.int .i64 (lf k : Nat))) n (k + 1) lf v vf L F := by
  have hK : Kept (fun k => k = W.heap.size + 1) w (w.setCell ⟨W.heap.size + 1, k, none⟩ (.int .i64 (lf k : Nat))) := Kept.setCell (p := fun k => k = W.heap.size + 1) (Kept.refl _ w) (x := ⟨W.heap.size + 1, k, none⟩) rfl _
  have hsz := h.base.size
  refine ⟨h.base.trans (hK.below hsz (fun k e => by omega)), h.idx.kept2 hK (fun e => by omega) (fun g hg e => by have := (own_row h.idx.own hg).1; omega), (h.lens.set k _).congr (fun i hi => ?_), fun x hx => ?_, hK.owns h.flat (fun g hg e => by have := (own_row h.flat hg).1; omega)⟩
  · by_cases e : i = k
    · subst e; rw [if_pos rfl, if_pos (by omega)]
    · rw [if_neg e]
      by_cases e2 : i < k
      · rw [if_pos e2, if_pos (by omega)]
      · rw [if_neg e2, if_neg (by omega)]
  · obtain ⟨g, e, hP, hne⟩ := h.page x hx
    exact ⟨g, e, hP.kept hK (fun k hk e' => by have := (own_row hP.1 hk).1; omega), hne⟩

/-- At the start. -/
theorem St.start (W : World) (n : Nat) (lf : Nat → Nat) : St W ((W.alloc (.cells #[.slice none 0 0] 26)).alloc (.cells (madeCells #[.int .i64 0] n) 3)) n 0 lf (.slice none 0 0) (.slice none 0 0) [] [] := by
  have hb : Below W.heap.size W ((W.alloc (.cells #[.slice none 0 0] 26)).alloc (.cells (madeCells #[.int .i64 0] n) 3)) := ((Below.refl _ _).alloc (Nat.le_refl _) _).alloc (by simp) _
  have hr : (W.alloc (.cells #[.slice none 0 0] 26)).rowIs W.heap.size 26 1 (fun _ => .slice none 0 0) := World.rowIs_alloc W _ 26 _ (fun i hi => by
    have : i = 0 := by simpa using hi
    subst this; rfl)
  refine ⟨hb, ⟨by omega, by simp, hr.alloc _, ?_⟩, ?_, (fun x hx => by cases hx), ?_⟩
  · exact ⟨by simp, Or.inl ⟨rfl, rfl⟩⟩
  · have := World.rowIs_made (W.alloc (.cells #[.slice none 0 0] 26)) (.int .i64 0) n 3
    rw [show (W.alloc (.cells #[.slice none 0 0] 26)).heap.size = W.heap.size + 1 by simp] at this
    exact this.congr (fun i _ => by rw [if_neg (by omega)])
  · exact ⟨by simp, Or.inl ⟨rfl, rfl⟩⟩
end Go.Proofs.Ybulkdklm.E
