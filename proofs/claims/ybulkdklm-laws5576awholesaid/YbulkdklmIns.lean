/-
  slices.Insert at []*span (function 6) and at [][]*span (function 8), one value put in; slices.Clone at []*span (function 7).
-/
import Derived.Test.YbulkdklmRows
import Derived.WalkKit
import Derived.WalkSpells
import Derived.WalkLawsBesides
import Derived.Laws.CopyOwn
import Derived.Laws.Externs
import Derived.Deep.OwnRows
import Derived.Deep.RegionLaw
import Derived.Lib.SliceRun
import Derived.Lib.Overlaps
import Derived.Lib.AppendZerosOnto
namespace Go.Proofs.Ybulkdklm.E
open Go.RowKit Go.Deep
set_option linter.unusedVariables false

theorem info29 : (Yba.prog.info? 29).map (fun i => (i.zero, i.size, i.bytes)) = some (some (.pointer none), 1, 8) := by kernel_rfl
theorem info27 : (Yba.prog.info? 27).map (fun i => (i.zero, i.size, i.bytes)) = some (some (.slice none 0 0), 1, 24) := by kernel_rfl
theorem size29 : (Yba.prog.info? 29).map (·.size) = some 1 := by kernel_rfl
theorem size27 : (Yba.prog.info? 27).map (·.size) = some 1 := by kernel_rfl
theorem sizeOf29 (w : World) : (sizeOf 29).run Yba.prog w = .ok 1 w := by kernel_rfl
theorem sizeOf27 (w : World) : (sizeOf 27).run Yba.prog w = .ok 1 w := by kernel_rfl

/-- Blocks for which p does not hold are as they were. -/
structure Kept (p : Nat → Prop) (w w' : World) : Prop where
  os : w'.os = w.os
  tape : w'.tape = w.tape
  output : w'.output = w.output
  size : w.heap.size ≤ w'.heap.size
  block : ∀ k, k < w.heap.size → ¬ p k → w'.heap[k]? = w.heap[k]?

theorem Kept.refl (p : Nat → Prop) (w : World) : Kept p w w := ⟨rfl, rfl, rfl, Nat.le_refl _, fun _ _ _ => rfl⟩
theorem Kept.trans {p : Nat → Prop} {a b c : World} (h : Kept p a b) (k : Kept p b c) : Kept p a c :=
  ⟨k.os.trans h.os, k.tape.trans h.tape, k.output.trans h.output, Nat.le_trans h.size k.size, fun i hi hp => (k.block i (Nat.lt_of_lt_of_le hi h.size) hp).trans (h.block i hi hp)⟩
theorem Kept.setCell {p : Nat → Prop} {a w : World} (h : Kept p a w) {x : Addr} (hx : p x.block) (u : Value) : Kept p a (w.setCell x u) :=
  h.trans ⟨rfl, rfl, rfl, by simp [World.setCell], fun k _ hk => Below.heap_setCell _ _ _ _ (fun e => hk (e ▸ hx))⟩
theorem Kept.alloc {p : Nat → Prop} {a w : World} (h : Kept p a w) (o : Obj) : Kept p a (w.alloc o) :=
  h.trans ⟨rfl, rfl, rfl, by simp, fun _ hk _ => Below.heap_alloc _ _ _ hk⟩
theorem Kept.drew {p : Nat → Prop} {a w : World} (h : Kept p a w) : Kept p a w.drew := ⟨h.os, h.tape, h.output, h.size, h.block⟩
theorem Kept.drewN {p : Nat → Prop} {a w : World} (h : Kept p a w) (q : Nat) : Kept p a (w.drewN q) := ⟨h.os, h.tape, h.output, h.size, h.block⟩
theorem Kept.grown {p : Nat → Prop} {a w w' : World} {row : Option Nat} (h : Kept p a w) (hg : w.grownBy w' row) (hr : ∀ k, row = some k → p k) : Kept p a w' :=
  h.trans ⟨hg.os, hg.tape, hg.output, hg.size, fun k hk hp => hg.block k hk (fun e => hp (hr k e.symm))⟩
theorem Kept.mono {p q : Nat → Prop} {a w : World} (h : Kept p a w) (hpq : ∀ k, p k → q k) : Kept q a w := ⟨h.os, h.tape, h.output, h.size, fun k hk hq => h.block k hk (fun hp => hq (hpq k hp))⟩
theorem Kept.below {p : Nat → Prop} {a w : World} {B : Nat} (h : Kept p a w) (hB : B ≤ a.heap.size) (hp : ∀ k, p k → B ≤ k) : Below B a w :=
  ⟨h.os, h.tape, h.output, h.size, fun k hk => h.block k (by omega) (fun e => by have := hp k e; omega)⟩
theorem Kept.rowIs {p : Nat → Prop} {a w : World} (h : Kept p a w) {b : Nat} {t : TypeId} {n : Nat} {f : Nat → Value} (hr : a.rowIs b t n f) (hb : ¬ p b) : w.rowIs b t n f :=
  hr.of_block (h.block b hr.lt hb)
theorem Kept.owns {p : Nat → Prop} {a w : World} (h : Kept p a w) {B : Nat} {e : TypeId} {v : Value} {n : Nat} {xs : List Value} (ho : a.ownsRow B e 1 v n xs) (hb : ∀ k, v.ownBlock = some k → ¬ p k) : w.ownsRow B e 1 v n xs := by
  refine ⟨ho.1, ?_⟩
  rcases ho.2 with h2 | ⟨g, cap, cur, rfl, hB, hg, r⟩
  · exact Or.inl h2
  · exact Or.inr ⟨g, cap, cur, rfl, hB, (h.block g (Array.getElem?_eq_some_iff.1 hg).1 (hb g rfl)).trans hg, r⟩

theorem rowIs_put (g : Nat) (t : TypeId) (N : Nat) : ∀ (cs : List Value) (o : Nat) (w : World) (f : Nat → Value), w.rowIs g t N f →
    (w.setCells g o cs).rowIs g t N (fun i => if o ≤ i ∧ i < o + cs.length then cs.getD (i - o) undef else f i)
  | [], o, w, f, h => by
    simp only [World.setCells, List.length_nil]
    exact h.congr (fun i _ => by rw [if_neg (by omega)])
  | c :: cs, o, w, f, h => by
    simp only [World.setCells, List.length_cons]
    refine (rowIs_put g t N cs (o + 1) _ _ (h.set o c)).congr (fun i _ => ?_)
    by_cases e : i = o
    · subst e
      rw [if_neg (by omega), if_pos rfl, if_pos (by omega), Nat.sub_self]; rfl
    · by_cases e2 : o ≤ i ∧ i < o + (cs.length + 1)
      · rw [if_pos (by omega), if_pos e2, show i - o = (i - (o + 1)) + 1 by omega]; rfl
      · rw [if_neg (by omega), if_neg e2, if_neg e]

theorem kept_setCells (p : Nat → Prop) (g : Nat) (hg : p g) : ∀ (vs : List Value) (o : Nat) (a w : World), Kept p a w → Kept p a (w.setCells g o vs)
  | [], _, _, _, h => h
  | v :: vs, o, a, w, h => by
    simp only [World.setCells]
    exact kept_setCells p g hg vs (o + 1) a _ (h.setCell hg v)

/-- 'copy' into a row that is known whole: an equation for the walk, the world behind it under a name. -/
theorem copy_row (T E : TypeId) (hT : Yba.prog.underlying T = some (.slice E)) (hE : (Yba.prog.info? E).map (·.size) = some 1) (W : World) (g t o N dl dc : Nat) (a : Addr) (sl sc : Nat) (f : Nat → Value) (cs : List Value)
    (hr : W.rowIs g t N f) (hn : cs.length = Nat.min sl dl) (hsrc : ∀ j v, cs[j]? = some v → W.cell? (a.add j) = some v) (hfit : o + cs.length ≤ N) (h1 : ∀ v ∈ cs, v.oneCell' = true) :
    ∃ W', (∀ ty, (Builtin.copy_ #[T, T] ty #[.slice (some ⟨g, o, none⟩) dl dc, .slice (some a) sl sc]).run Yba.prog W = .ok (goInt cs.length) W') ∧
      W'.rowIs g t N (fun i => if o ≤ i ∧ i < o + cs.length then cs.getD (i - o) undef else f i) ∧ Kept (fun k => k = g) W W' :=
  ⟨_, fun ty => run_copy_cells (P := Yba.prog) W T T ty E g o dl dc a sl sc cs hT hE hn hsrc (fun j hj => by rw [hr.cell (i := o + j) (by omega)]; rfl) (fun j _ => hr.frozen _) h1,
    rowIs_put g t N cs o W f hr, kept_setCells (fun k => k = g) g rfl cs o W W (Kept.refl _ _)⟩
theorem step_copy_run {ops : Array Oper} {o : Oper} {a : Act} {w : World} {K : Act → World → Prop} {Q : Exit → Act → World → Prop} {E : Prop}
    (hg : o.guard = none) (d x : Operand) (dT sT : TypeId) (hop : o.op = Op.call { callee := Callee.builtin Builtin.copy, args := #[d, x], argTypes := #[dT, sT] })
    (v u : Value) (hd : a.eval d = v) (hx : a.eval x = u) {v' : Value} {w' : World} (hr : (Builtin.copy_ #[dT, sT] o.type #[v, u]).run Yba.prog w = .ok v' w') (hK : K (a.put o.dst v') w') :
    if Region.wanted o (yielded ops a.tmps) = true then Oper.wp Yba.prog o a w K Q else E := by
  have hw : Region.wanted o (yielded ops a.tmps) = true := by simp [Region.wanted, hg]
  rw [if_pos hw]
  unfold Oper.wp
  simp [execOp, hop, resolve, invoke, builtin, hd, hx, hr, Result.andThen]
  exact hK

/-- The cells from place i on, n - i of them. -/
def cut (f : Nat → Value) (i n : Nat) : List Value := (List.range (n - i)).map (fun j => f (i + j))
theorem cut_length (f : Nat → Value) (i n : Nat) : (cut f i n).length = n - i := by simp [cut]
theorem cut_get {f : Nat → Value} {i n j : Nat} {v : Value} (h : (cut f i n)[j]? = some v) : j < n - i ∧ v = f (i + j) := by
  have hj : j < n - i := by
    have := (List.getElem?_eq_some_iff.1 h).1
    rwa [cut_length] at this
  refine ⟨hj, ?_⟩
  simp [cut, hj] at h
  exact h.symm
theorem cut_getD (f : Nat → Value) (i n j : Nat) (hj : j < n - i) : (cut f i n).getD j undef = f (i + j) := by simp [cut, hj]

/-- The row behind an insertion in place. -/
def shifted (f : Nat → Value) (i n : Nat) (y : Value) (j : Nat) : Value := if j = i then y else if i < j ∧ j ≤ n then f (j - 1) else f j

/-- From an owned row to its cells by the index, and back. -/
theorem row_of_own {w : World} {B g n cap : Nat} {E : TypeId} {xs : List Value} (h : w.ownsRow B E 1 (.slice (some ⟨g, 0, none⟩) n cap) n xs) :
    ∃ f, w.rowIs g E cap f ∧ (∀ j, j < n → xs[j]? = some (f j)) ∧ B ≤ g ∧ n ≤ cap ∧ cap ≤ 9223372036854775807 ∧ xs.length = n := by
  rcases h.2 with ⟨h', _⟩ | ⟨g', cap', cur, h', hB, hg, hn, hc, hs, ht⟩
  · cases h'
  · cases h'
    refine ⟨fun j => cur[j]?.getD undef, ⟨cur, hg, by simpa using hs, fun i hi => ?_⟩, fun j hj => ?_, hB, hn, by simpa [maxLen] using hc, by simpa using h.1⟩
    · show cur[i]? = some (cur[i]?.getD undef)
      rw [Array.getElem?_eq_getElem (by omega)]; rfl
    · rw [← ht, List.getElem?_take, if_pos (by omega), Array.getElem?_toList]
      show cur[j]? = some (cur[j]?.getD undef)
      rw [Array.getElem?_eq_getElem (by omega)]; rfl

theorem own_of_row {w : World} {B g n cap : Nat} {E : TypeId} {xs : List Value} {f : Nat → Value} (h : w.rowIs g E cap f) (hx : ∀ j, j < n → xs[j]? = some (f j)) (hl : xs.length = n) (hB : B ≤ g) (hn : n ≤ cap) (hc : cap ≤ 9223372036854775807) :
    w.ownsRow B E 1 (.slice (some ⟨g, 0, none⟩) n cap) n xs := by
  obtain ⟨c, hb, hs, hcell⟩ := h
  refine ⟨by omega, Or.inr ⟨g, cap, c, rfl, hB, hb, hn, by simpa [maxLen] using hc, by omega, ?_⟩⟩
  rw [Nat.mul_one]
  apply List.ext_getElem?
  intro j
  rw [List.getElem?_take]
  by_cases hj : j < n
  · rw [if_pos hj, hx j hj, Array.getElem?_toList, hcell j (by omega)]
  · rw [if_neg hj, List.getElem?_eq_none (by omega)]

theorem ins_get (xs : List Value) (y : Value) (i n : Nat) (f : Nat → Value) (hi : i ≤ n) (hl : xs.length = n) (hx : ∀ j, j < n → xs[j]? = some (f j)) (j : Nat) (hj : j < n + 1) :
    (xs.take i ++ y :: xs.drop i)[j]? = some (shifted f i n y j) := by
  unfold shifted
  have htl : (xs.take i).length = i := by rw [List.length_take]; omega
  by_cases e : j = i
  · subst e
    rw [if_pos rfl, List.getElem?_append_right (by omega), htl, Nat.sub_self]; rfl
  · rw [if_neg e]
    by_cases e2 : i < j ∧ j ≤ n
    · rw [if_pos e2, List.getElem?_append_right (by omega), htl, show j - i = (j - i - 1) + 1 by omega, List.getElem?_cons_succ, List.getElem?_drop, show i + (j - i - 1) = j - 1 by omega]
      exact hx (j - 1) (by omega)
    · rw [if_neg e2, List.getElem?_append_left (by omega), List.getElem?_take, if_pos (by omega)]
      exact hx j (by omega)

theorem overlaps_6 (W : World) (vb g o lb cb N : Nat) (y : Value) (f : Nat → Value) (hne : vb ≠ g) (hN : N ≠ 0) (hv : W.rowIs vb 29 1 (fun _ => y)) (hg : W.rowIs g 29 N f) :
    (callFunc 9 #[.slice (some ⟨vb, 0, none⟩) 1 1, .slice (some ⟨g, o, none⟩) lb cb]).run Yba.prog W = .ok (.value (.bool false)) W := by
  obtain ⟨cv, hv1, hv2, _⟩ := hv
  obtain ⟨cg, hg1, hg2, _⟩ := hg
  have sv : W.shape? vb = some (29, 1) := by simp [World.shape?, hv1, hv2]
  have sg : W.shape? g = some (29, N) := by simp [World.shape?, hg1, hg2]
  have f1 : W.frozen? ⟨vb, 0, none⟩ = false := by simp [World.frozen?, hv1]
  have f2 : W.frozen? ⟨vb, 1, none⟩ = false := by simp [World.frozen?, hv1]
  rw [run_callFunc_extern Yba.func9 (by kernel_rfl) (by kernel_rfl) (by kernel_rfl) (e := Extern.SlicesOverlaps.overlaps #[27, 27] #[4]) (by kernel_rfl),
    Lib.run_overlaps_apart W 27 4 29 Yba.underlying27 1 sizeOf29 ⟨vb, 0, none⟩ ⟨g, o, none⟩ 1 1 lb cb hne 29 29 1 N sv sg hN f1 f2]
  rfl

set_option maxHeartbeats 2000000 in
set_option maxRecDepth 100000 in
/-- slices.Insert, i < len(s), there is room: in place. -/
theorem ins6_shift (w : World) (g n cap i vb : Nat) (y : Value) (f : Nat → Value) (hi : i < n) (hroom : n + 1 ≤ cap) (hc63 : cap ≤ 9223372036854775807) (hne : vb ≠ g) (hr : w.rowIs g 29 cap f) (hv : w.rowIs vb 29 1 (fun _ => y))
    (h1 : ∀ j, j < n → (f j).oneCell' = true) (hy : y.oneCell' = true) :
    Calls Yba.prog 6 #[.slice (some ⟨g, 0, none⟩) n cap, .int .i64 i, .slice (some ⟨vb, 0, none⟩) 1 1] w fun e w' => e = .returned (.slice (some ⟨g, 0, none⟩) (n + 1) cap) ∧ w'.rowIs g 29 cap (shifted f i n y) ∧ Kept (fun k => k = g) w w' := by
  have hov := fun o lb cb => overlaps_6 w vb g o lb cb cap y f hne (by omega) hv hr
  obtain ⟨W1, hcp1, hr1, hk1⟩ := copy_row 27 29 Yba.underlying27 size29 w.drew g 29 (i + 1) cap (n - i) (cap - (i + 1)) ⟨g, i, none⟩ (n + 1 - i) (cap - i) f (cut f i n) hr.drew
    (by rw [cut_length]; simp only [Nat.min_def]; split <;> omega) (fun j v hj => by obtain ⟨h2, rfl⟩ := cut_get hj; rw [Addr.add_lit]; exact hr.drew.cell (by omega)) (by rw [cut_length]; omega)
    (fun v hv' => by obtain ⟨j, hj, rfl⟩ := List.mem_map.1 hv'; exact h1 _ (by have := List.mem_range.1 hj; omega))
  have hv1 : W1.rowIs vb 29 1 (fun _ => y) := hk1.rowIs hv.drew hne
  obtain ⟨W2, hcp2, hr2, hk2⟩ := copy_row 27 29 Yba.underlying27 size29 W1 g 29 i cap (n + 1 - i) (cap - i) ⟨vb, 0, none⟩ 1 1 _ [y] hr1
    (by simp only [List.length_singleton, Nat.min_def]; split <;> omega) (fun j v hj => by
      match j, hj with
      | 0, hj => simp at hj; subst hj; rw [Addr.add_lit]; exact hv1.cell (by omega)) (by simp; omega) (fun v hv' => by simp at hv'; subst hv'; exact hy)
  have hfin : W2.rowIs g 29 cap (shifted f i n y) := hr2.congr (fun j hj => by
    rw [cut_length, List.length_singleton]
    unfold shifted
    by_cases e : j = i
    · subst e; simp
    · rw [if_neg (by omega), if_neg e]
      by_cases e2 : i < j ∧ j ≤ n
      · rw [if_pos (by omega), if_pos e2, cut_getD _ _ _ _ (by omega), show i + (j - (i + 1)) = j - 1 by omega]
      · rw [if_neg (by omega), if_neg e2])
  have hkf : Kept (fun k => k = g) w W2 := (((Kept.refl _ w).drew).trans hk1).trans hk2
  have H : Hid (_ ∧ _) := ⟨hfin, hkf⟩
  clear hfin hkf hr2 hk2 hr1 hk1 hv1 hr hv h1
  have hw1 : IntKind.i64.wrap ((i : Int) + 1) = (i : Int) + 1 := by rw [IntKind.wrap_i64]; omega
  have hb1 : (0 : Int) ≤ (i : Int) + 1 := by omega
  have hin : i ≤ n := by omega
  have htn : ((i : Int) + 1).toNat = i + 1 := by omega
  have hb2 : ¬ (cap = i + 1) := by omega
  have hb3 : (i : Int) ≤ (n : Int) + 1 := by omega
  have hb4 : ¬ (cap = i) := by omega
  go_enter Yba.func6, Yba.ntmps6
  go_wp2_with (simp only [hov])
  go_region_law (refine step_copy_run rfl (.tmp 73) (.tmp 76) 27 27 rfl (.slice (some ⟨g, i + 1, none⟩) (n - i) (cap - (i + 1))) (.slice (some ⟨g, i, none⟩) (n + 1 - i) (cap - i)) (by simp [Act.eval, Act.put]) (by simp [Act.eval, Act.put]) (hcp1 _) ?_)
  go_wp2
  go_ret
  exact ⟨rfl, H.out⟩

set_option maxHeartbeats 2000000 in
set_option maxRecDepth 100000 in
/-- slices.Insert at the end. -/
theorem ins6_end (w : World) (B g n cap vb : Nat) (y : Value) (xs : List Value) (ho : w.ownsRow B 29 1 (.slice (some ⟨g, 0, none⟩) n cap) n xs) (hn : n ≤ 1000000) (hv : w.rowIs vb 29 1 (fun _ => y)) (hy : y.oneCell' = true) (hB : B ≤ w.heap.size) :
    Calls Yba.prog 6 #[.slice (some ⟨g, 0, none⟩) n cap, .int .i64 n, .slice (some ⟨vb, 0, none⟩) 1 1] w fun e w' => ∃ v', e = .returned v' ∧ w'.ownsRow B 29 1 v' (n + 1) (xs ++ [y]) ∧ Kept (fun k => k = g ∧ n < cap) w w' := by
  obtain ⟨f, hr, hx, hBg, hnc, hc63, hl⟩ := row_of_own ho
  obtain ⟨i0, hi, hz0, hz1, hz2⟩ := info_parts info29
  have hcv : ∀ j u, [y][j]? = some u → w.cell? ((⟨vb, 0, none⟩ : Addr).add j) = some u := fun j u hj => by
    match j, hj with
    | 0, hj => simp at hj; subst hj; rw [Addr.add_lit]; exact hv.cell (by omega)
  have hy1 : ∀ u, u ∈ [y] → u.oneCell' = true := fun u hu => by simp at hu; subst hu; exact hy
  by_cases hroom : n < cap
  · go_enter Yba.func6, Yba.ntmps6
    go_wp2_with (at_builtin; refine wpList_append_own _ rfl (.tmp 23) (.tmp 24) 27 rfl B 29 i0 (.pointer none) 1 8 Yba.underlying27 hi hz0 hz1 hz2 rfl (by decide) _ n xs rfl ho ⟨vb, 0, none⟩ 1 1 [y] rfl rfl hcv hy1 ?c3 ?c4 hB ?_)
    case c3 => unfold maxLen; omega
    case c4 => omega
    intro v' w1 hown hgrow _
    go_wp2
    go_ret
    exact ⟨v', rfl, hown, (Kept.refl _ w).grown hgrow (fun k hk => by simp [Value.ownBlock] at hk; exact ⟨hk.symm, hroom⟩)⟩
  · have holds : ∀ b, some (⟨g, 0, none⟩ : Addr) = some b → ∀ j u, xs[j]? = some u → w.cell? (b.add j) = some u := fun b hb j u hj => by
      cases hb
      have hjn : j < n := by have := (List.getElem?_eq_some_iff.1 hj).1; omega
      rw [hx j hjn] at hj
      cases hj
      rw [Addr.add_lit, Nat.zero_add]
      exact hr.cell (by omega)
    go_enter Yba.func6, Yba.ntmps6
    go_wp2_with (at_builtin; refine wpList_append_grows _ rfl (.tmp 23) (.tmp 24) 27 rfl 29 i0 (.pointer none) 1 8 Yba.underlying27 hi hz0 hz1 hz2 rfl (by decide) (some ⟨g, 0, none⟩) n cap xs rfl (fun h => by cases h) (by omega) holds ⟨vb, 0, none⟩ 1 1 [y] rfl rfl hcv hy1 (by omega) ?d3 ?d4 ?_)
    case d3 => unfold maxLen; omega
    case d4 => omega
    intro v' w1 hown hgrow
    go_wp2
    go_ret
    refine ⟨v', rfl, ⟨hown.1, ?_⟩, (Kept.refl _ w).grown hgrow (fun k hk => by cases hk)⟩
    rcases hown.2 with ⟨_, h2⟩ | ⟨g', cap', cur, hv', hB', r⟩
    · omega
    · exact Or.inr ⟨g', cap', cur, hv', by omega, r⟩

set_option maxHeartbeats 2000000 in
set_option maxRecDepth 100000 in
/-- slices.Insert, i < len(s), no room: a new row. -/
theorem ins6_grow (w : World) (B g n cap i vb : Nat) (y : Value) (xs : List Value) (hi : i < n) (hfull : cap < n + 1) (ho : w.ownsRow B 29 1 (.slice (some ⟨g, 0, none⟩) n cap) n xs) (hn : n ≤ 1000000) (hv : w.rowIs vb 29 1 (fun _ => y)) (hy : y.oneCell' = true) (h1 : ∀ u, u ∈ xs → u.oneCell' = true) (hB : B ≤ w.heap.size) :
    Calls Yba.prog 6 #[.slice (some ⟨g, 0, none⟩) n cap, .int .i64 i, .slice (some ⟨vb, 0, none⟩) 1 1] w fun e w' => ∃ v', e = .returned v' ∧ w'.ownsRow B 29 1 v' (n + 1) (xs.take i ++ y :: xs.drop i) ∧ Kept (fun _ => False) w w' := by
  obtain ⟨f, hr, hx, hBg, hnc, hc63, hl⟩ := row_of_own ho
  obtain ⟨i0, hi0, hz0, hzs, hzb⟩ := info_parts info29
  have hgw : g < w.heap.size := hr.lt
  have hvw : vb < w.heap.size := hv.lt
  have hkk : (n : Int) + 1 - (i : Int) = ((n + 1 - i : Nat) : Int) := by omega
  have hik : i + (n + 1 - i) = n + 1 := by omega
  have hold : (Builtin.firstCells i0.size i (.slice (some ⟨g, 0, none⟩) i cap)).run Yba.prog w.drew = .ok (xs.take i).toArray w.drew := by
    rw [hzs]
    exact run_firstCells_some w.drew 1 i ⟨g, 0, none⟩ i cap (xs.take i) (by rw [List.length_take]; omega) (fun j v hj => by
      rw [Addr.add_lit, Nat.zero_add]
      rw [List.getElem?_take] at hj
      split at hj
      · rename_i hji
        rw [hx j (by omega)] at hj
        cases hj
        exact hr.cell (by omega)
      · cases hj)
  obtain ⟨GC, hGC⟩ : ∃ GC, GC = grownCap w (n + 1) cap 29 := ⟨_, rfl⟩
  have hGn : n + 1 ≤ GC := by rw [hGC]; exact grownCap_ge w _ _ _
  have hG63 : GC ≤ 9223372036854775807 := by
    have := grownCap_le_maxLen w (n + 1) cap 29 (by unfold maxLen; omega)
    rw [← hGC] at this
    unfold maxLen at this
    omega
  obtain ⟨ROW, hROW⟩ : ∃ ROW : Array Value, ROW = (xs.take i).toArray ++ Builtin.zeroCells (Value.pointer none).cells (n + 1 - i) ++ Builtin.zeroCells (Value.pointer none).cells (GC - (n + 1)) := ⟨_, rfl⟩
  have hrz : ∀ ty, (Builtin.append_ #[27, 3] ty #[.slice (some ⟨g, 0, none⟩) i cap, .int .i64 ((n : Int) + 1 - (i : Int))]).run Yba.prog w =
      .ok (.slice (some ⟨w.heap.size, 0, none⟩) (n + 1) GC) (w.drew.alloc (.cells ROW 29)) := fun ty => by
    have h := Lib.run_append_grow_zeros w 27 3 ty 29 i0 _ .i64 .i64 Yba.underlying27 Yba.underlying3 hi0 hz0 (some ⟨g, 0, none⟩) i cap (xs.take i) hold (n + 1 - i) (by omega) (by omega) (by omega) (by omega) (by rw [hzb]; omega) (by rw [hzb, hik]; exact growslice_fits hfull (by omega))
    rw [hik, ← hGC, ← hROW] at h
    rw [hkk]
    exact h
  have hRs : ROW.size = GC := by
    rw [hROW]
    simp [Builtin.zeroCells, Value.cells, List.length_take]
    omega
  have hrow1 : (w.alloc (.cells ROW 29)).rowIs w.heap.size 29 GC (fun j => ROW[j]?.getD undef) := by
    have := World.rowIs_alloc w ROW 29 (fun j => ROW[j]?.getD undef) (fun j hj => by
      show ROW[j]? = some (ROW[j]?.getD undef)
      rw [Array.getElem?_eq_getElem hj]; rfl)
    rw [hRs] at this
    exact this
  have hvn : vb ≠ w.heap.size := by omega
  have hgn : g ≠ w.heap.size := by omega
  have hpre : ∀ j, j < i → ROW[j]?.getD undef = f j := fun j hj => by
    rw [hROW, Array.getElem?_append_left (by simp; omega), Array.getElem?_append_left (by simp; omega)]
    simp only [List.getElem?_toArray, List.getElem?_take, if_pos hj]
    rw [hx j (by omega)]; rfl
  have hv0 : (w.alloc (.cells ROW 29)).drew.rowIs vb 29 1 (fun _ => y) := (hv.alloc _).drew
  have hg0 : (w.alloc (.cells ROW 29)).drew.rowIs g 29 cap f := (hr.alloc _).drew
  have h1f : ∀ j, j < n → (f j).oneCell' = true := fun j hj => h1 _ (List.mem_of_getElem? (hx j hj))
  obtain ⟨W1, hcp1, hr1, hk1⟩ := copy_row 27 29 Yba.underlying27 size29 (w.alloc (.cells ROW 29)).drew w.heap.size 29 i GC (n + 1 - i) (GC - i) ⟨vb, 0, none⟩ 1 1 _ [y] hrow1.drew
    (by simp only [List.length_singleton, Nat.min_def]; split <;> omega) (fun j v hj => by
      match j, hj with
      | 0, hj => simp at hj; subst hj; rw [Addr.add_lit]; exact hv0.cell (by omega)) (by simp; omega) (fun v hv' => by simp at hv'; subst hv'; exact hy)
  have hg1 : W1.rowIs g 29 cap f := hk1.rowIs hg0 hgn
  obtain ⟨W2, hcp2, hr2, hk2⟩ := copy_row 27 29 Yba.underlying27 size29 W1.drew w.heap.size 29 (i + 1) GC (n - i) (GC - (i + 1)) ⟨g, i, none⟩ (n - i) (cap - i) _ (cut f i n) hr1.drew
    (by rw [cut_length]; simp) (fun j v hj => by obtain ⟨h2, rfl⟩ := cut_get hj; rw [Addr.add_lit]; exact hg1.drew.cell (by omega)) (by rw [cut_length]; omega)
    (fun v hv' => by obtain ⟨j, hj, rfl⟩ := List.mem_map.1 hv'; exact h1f _ (by have := List.mem_range.1 hj; omega))
  have hfin : W2.ownsRow B 29 1 (.slice (some ⟨w.heap.size, 0, none⟩) (n + 1) GC) (n + 1) (xs.take i ++ y :: xs.drop i) := by
    refine own_of_row hr2 (fun j hj => ?_) (by simp [hl]; omega) hB hGn hG63
    rw [ins_get xs y i n f (by omega) hl hx j hj, cut_length, List.length_singleton]
    unfold shifted
    congr 1
    by_cases e : j = i
    · subst e; rw [if_pos rfl, if_neg (by omega), if_pos (by omega), Nat.sub_self]; rfl
    · rw [if_neg e]
      by_cases e2 : i < j ∧ j ≤ n
      · rw [if_pos e2, if_pos (by omega), cut_getD _ _ _ _ (by omega), show i + (j - (i + 1)) = j - 1 by omega]
      · rw [if_neg e2, if_neg (by omega), if_neg (by omega), hpre j (by omega)]
  have hkf : Kept (fun _ => False) w W2 := by
    have h1' : Kept (fun k => k = w.heap.size) w W2 := ((((Kept.refl _ w).alloc _).drew.trans hk1).drew).trans hk2
    exact ⟨h1'.os, h1'.tape, h1'.output, h1'.size, fun k hk _ => h1'.block k hk (by omega)⟩
  have H : Hid (_ ∧ _) := ⟨hfin, hkf⟩
  clear hfin hkf hr2 hk2 hr1 hk1 hg1 hv0 hg0 hrow1 hpre hr hx hv h1 h1f hROW hGC hold hRs ho
  have hw1 : IntKind.i64.wrap ((i : Int) + 1) = (i : Int) + 1 := by rw [IntKind.wrap_i64]; omega
  have hb1 : (0 : Int) ≤ (i : Int) + 1 := by omega
  have hin : i ≤ n := by omega
  have htn : ((i : Int) + 1).toNat = i + 1 := by omega
  have hb2 : ¬ (GC = i + 1) := by omega
  have hb3 : (i : Int) ≤ (n : Int) := by omega
  have hb4 : ¬ (GC = i) := by omega
  have hb5 : ¬ (cap = i) := by omega
  clear hkk hik
  go_enter Yba.func6, Yba.ntmps6
  go_wp2_with (at_builtin; refine Lib.wpList_append_run _ rfl _ _ _ _ rfl _ _ rfl rfl _ _ (hrz _) ?_)
  go_region_law (refine step_copy_run rfl (.tmp 50) (.tmp 53) 27 27 rfl (.slice (some ⟨w.heap.size, i + 1, none⟩) (n - i) (GC - (i + 1))) (.slice (some ⟨g, i, none⟩) (n - i) (cap - i)) (by simp [Act.eval, Act.put]) (by simp [Act.eval, Act.put]) (hcp2 _) ?_)
  go_wp2
  go_ret
  exact ⟨_, rfl, H.out⟩

/-- slices.Insert of one value, whatever the room. -/
theorem ins6_own (w : World) (B g n cap i vb : Nat) (y : Value) (xs : List Value) (hi : i ≤ n) (ho : w.ownsRow B 29 1 (.slice (some ⟨g, 0, none⟩) n cap) n xs) (hn : n ≤ 1000000) (hne : vb ≠ g) (hv : w.rowIs vb 29 1 (fun _ => y)) (hy : y.oneCell' = true) (h1 : ∀ u, u ∈ xs → u.oneCell' = true) (hB : B ≤ w.heap.size) :
    Calls Yba.prog 6 #[.slice (some ⟨g, 0, none⟩) n cap, .int .i64 i, .slice (some ⟨vb, 0, none⟩) 1 1] w fun e w' => ∃ v', e = .returned v' ∧ w'.ownsRow B 29 1 v' (n + 1) (xs.take i ++ y :: xs.drop i) ∧ Kept (fun k => k = g ∧ n < cap) w w' := by
  obtain ⟨f, hr, hx, hBg, hnc, hc63, hl⟩ := row_of_own ho
  by_cases hin : i = n
  · subst hin
    refine (ins6_end w B g i cap vb y xs ho hn hv hy hB).mono ?_
    rintro e w' ⟨v', rfl, h2, h3⟩
    refine ⟨v', rfl, ?_, h3⟩
    rw [List.take_of_length_le (by omega), List.drop_of_length_le (by omega)]
    exact h2
  · by_cases hroom : n + 1 ≤ cap
    · refine (ins6_shift w g n cap i vb y f (by omega) hroom hc63 hne hr hv (fun j hj => h1 _ (List.mem_of_getElem? (hx j hj))) hy).mono ?_
      rintro e w' ⟨rfl, h2, h3⟩
      exact ⟨_, rfl, own_of_row h2 (fun j hj => ins_get xs y i n f hi hl hx j hj) (by simp [hl]; omega) hBg hroom hc63, h3.mono (fun k hk => ⟨hk, by omega⟩)⟩
    · refine (ins6_grow w B g n cap i vb y xs (by omega) (by omega) ho hn hv hy h1 hB).mono ?_
      rintro e w' ⟨v', rfl, h2, h3⟩
      exact ⟨v', rfl, h2, h3.mono (fun k hk => False.elim hk)⟩


theorem overlaps_8 (W : World) (vb g o lb cb N : Nat) (y : Value) (f : Nat → Value) (hne : vb ≠ g) (hN : N ≠ 0) (hv : W.rowIs vb 27 1 (fun _ => y)) (hg : W.rowIs g 27 N f) :
    (callFunc 11 #[.slice (some ⟨vb, 0, none⟩) 1 1, .slice (some ⟨g, o, none⟩) lb cb]).run Yba.prog W = .ok (.value (.bool false)) W := by
  obtain ⟨cv, hv1, hv2, _⟩ := hv
  obtain ⟨cg, hg1, hg2, _⟩ := hg
  have sv : W.shape? vb = some (27, 1) := by simp [World.shape?, hv1, hv2]
  have sg : W.shape? g = some (27, N) := by simp [World.shape?, hg1, hg2]
  have f1 : W.frozen? ⟨vb, 0, none⟩ = false := by simp [World.frozen?, hv1]
  have f2 : W.frozen? ⟨vb, 1, none⟩ = false := by simp [World.frozen?, hv1]
  rw [run_callFunc_extern Yba.func11 (by kernel_rfl) (by kernel_rfl) (by kernel_rfl) (e := Extern.SlicesOverlaps.overlaps #[24, 24] #[4]) (by kernel_rfl),
    Lib.run_overlaps_apart W 24 4 27 Yba.underlying24 1 sizeOf27 ⟨vb, 0, none⟩ ⟨g, o, none⟩ 1 1 lb cb hne 27 27 1 N sv sg hN f1 f2]
  rfl

set_option maxHeartbeats 2000000 in
set_option maxRecDepth 100000 in
/-- slices.Insert, i < len(s), there is room: in place. -/
theorem ins8_shift (w : World) (g n cap i vb : Nat) (y : Value) (f : Nat → Value) (hi : i < n) (hroom : n + 1 ≤ cap) (hc63 : cap ≤ 9223372036854775807) (hne : vb ≠ g) (hr : w.rowIs g 27 cap f) (hv : w.rowIs vb 27 1 (fun _ => y))
    (h1 : ∀ j, j < n → (f j).oneCell' = true) (hy : y.oneCell' = true) :
    Calls Yba.prog 8 #[.slice (some ⟨g, 0, none⟩) n cap, .int .i64 i, .slice (some ⟨vb, 0, none⟩) 1 1] w fun e w' => e = .returned (.slice (some ⟨g, 0, none⟩) (n + 1) cap) ∧ w'.rowIs g 27 cap (shifted f i n y) ∧ Kept (fun k => k = g) w w' := by
  have hov := fun o lb cb => overlaps_8 w vb g o lb cb cap y f hne (by omega) hv hr
  obtain ⟨W1, hcp1, hr1, hk1⟩ := copy_row 24 27 Yba.underlying24 size27 w.drew g 27 (i + 1) cap (n - i) (cap - (i + 1)) ⟨g, i, none⟩ (n + 1 - i) (cap - i) f (cut f i n) hr.drew
    (by rw [cut_length]; simp only [Nat.min_def]; split <;> omega) (fun j v hj => by obtain ⟨h2, rfl⟩ := cut_get hj; rw [Addr.add_lit]; exact hr.drew.cell (by omega)) (by rw [cut_length]; omega)
    (fun v hv' => by obtain ⟨j, hj, rfl⟩ := List.mem_map.1 hv'; exact h1 _ (by have := List.mem_range.1 hj; omega))
  have hv1 : W1.rowIs vb 27 1 (fun _ => y) := hk1.rowIs hv.drew hne
  obtain ⟨W2, hcp2, hr2, hk2⟩ := copy_row 24 27 Yba.underlying24 size27 W1 g 27 i cap (n + 1 - i) (cap - i) ⟨vb, 0, none⟩ 1 1 _ [y] hr1
    (by simp only [List.length_singleton, Nat.min_def]; split <;> omega) (fun j v hj => by
      match j, hj with
      | 0, hj => simp at hj; subst hj; rw [Addr.add_lit]; exact hv1.cell (by omega)) (by simp; omega) (fun v hv' => by simp at hv'; subst hv'; exact hy)
  have hfin : W2.rowIs g 27 cap (shifted f i n y) := hr2.congr (fun j hj => by
    rw [cut_length, List.length_singleton]
    unfold shifted
    by_cases e : j = i
    · subst e; simp
    · rw [if_neg (by omega), if_neg e]
      by_cases e2 : i < j ∧ j ≤ n
      · rw [if_pos (by omega), if_pos e2, cut_getD _ _ _ _ (by omega), show i + (j - (i + 1)) = j - 1 by omega]
      · rw [if_neg (by omega), if_neg e2])
  have hkf : Kept (fun k => k = g) w W2 := (((Kept.refl _ w).drew).trans hk1).trans hk2
  have H : Hid (_ ∧ _) := ⟨hfin, hkf⟩
  clear hfin hkf hr2 hk2 hr1 hk1 hv1 hr hv h1
  have hw1 : IntKind.i64.wrap ((i : Int) + 1) = (i : Int) + 1 := by rw [IntKind.wrap_i64]; omega
  have hb1 : (0 : Int) ≤ (i : Int) + 1 := by omega
  have hin : i ≤ n := by omega
  have htn : ((i : Int) + 1).toNat = i + 1 := by omega
  have hb2 : ¬ (cap = i + 1) := by omega
  have hb3 : (i : Int) ≤ (n : Int) + 1 := by omega
  have hb4 : ¬ (cap = i) := by omega
  go_enter Yba.func8, Yba.ntmps8
  go_wp2_with (simp only [hov])
  go_region_law (refine step_copy_run rfl (.tmp 73) (.tmp 76) 24 24 rfl (.slice (some ⟨g, i + 1, none⟩) (n - i) (cap - (i + 1))) (.slice (some ⟨g, i, none⟩) (n + 1 - i) (cap - i)) (by simp [Act.eval, Act.put]) (by simp [Act.eval, Act.put]) (hcp1 _) ?_)
  go_wp2
  go_ret
  exact ⟨rfl, H.out⟩

set_option maxHeartbeats 2000000 in
set_option maxRecDepth 100000 in
/-- slices.Insert at the end. -/
theorem ins8_end (w : World) (B g n cap vb : Nat) (y : Value) (xs : List Value) (ho : w.ownsRow B 27 1 (.slice (some ⟨g, 0, none⟩) n cap) n xs) (hn : n ≤ 1000000) (hv : w.rowIs vb 27 1 (fun _ => y)) (hy : y.oneCell' = true) (hB : B ≤ w.heap.size) :
    Calls Yba.prog 8 #[.slice (some ⟨g, 0, none⟩) n cap, .int .i64 n, .slice (some ⟨vb, 0, none⟩) 1 1] w fun e w' => ∃ v', e = .returned v' ∧ w'.ownsRow B 27 1 v' (n + 1) (xs ++ [y]) ∧ Kept (fun k => k = g ∧ n < cap) w w' := by
  obtain ⟨f, hr, hx, hBg, hnc, hc63, hl⟩ := row_of_own ho
  obtain ⟨i0, hi, hz0, hz1, hz2⟩ := info_parts info27
  have hcv : ∀ j u, [y][j]? = some u → w.cell? ((⟨vb, 0, none⟩ : Addr).add j) = some u := fun j u hj => by
    match j, hj with
    | 0, hj => simp at hj; subst hj; rw [Addr.add_lit]; exact hv.cell (by omega)
  have hy1 : ∀ u, u ∈ [y] → u.oneCell' = true := fun u hu => by simp at hu; subst hu; exact hy
  by_cases hroom : n < cap
  · go_enter Yba.func8, Yba.ntmps8
    go_wp2_with (at_builtin; refine wpList_append_own _ rfl (.tmp 23) (.tmp 24) 24 rfl B 27 i0 (.slice none 0 0) 1 24 Yba.underlying24 hi hz0 hz1 hz2 rfl (by decide) _ n xs rfl ho ⟨vb, 0, none⟩ 1 1 [y] rfl rfl hcv hy1 ?c3 ?c4 hB ?_)
    case c3 => unfold maxLen; omega
    case c4 => omega
    intro v' w1 hown hgrow _
    go_wp2
    go_ret
    exact ⟨v', rfl, hown, (Kept.refl _ w).grown hgrow (fun k hk => by simp [Value.ownBlock] at hk; exact ⟨hk.symm, hroom⟩)⟩
  · have holds : ∀ b, some (⟨g, 0, none⟩ : Addr) = some b → ∀ j u, xs[j]? = some u → w.cell? (b.add j) = some u := fun b hb j u hj => by
      cases hb
      have hjn : j < n := by have := (List.getElem?_eq_some_iff.1 hj).1; omega
      rw [hx j hjn] at hj
      cases hj
      rw [Addr.add_lit, Nat.zero_add]
      exact hr.cell (by omega)
    go_enter Yba.func8, Yba.ntmps8
    go_wp2_with (at_builtin; refine wpList_append_grows _ rfl (.tmp 23) (.tmp 24) 24 rfl 27 i0 (.slice none 0 0) 1 24 Yba.underlying24 hi hz0 hz1 hz2 rfl (by decide) (some ⟨g, 0, none⟩) n cap xs rfl (fun h => by cases h) (by omega) holds ⟨vb, 0, none⟩ 1 1 [y] rfl rfl hcv hy1 (by omega) ?d3 ?d4 ?_)
    case d3 => unfold maxLen; omega
    case d4 => omega
    intro v' w1 hown hgrow
    go_wp2
    go_ret
    refine ⟨v', rfl, ⟨hown.1, ?_⟩, (Kept.refl _ w).grown hgrow (fun k hk => by cases hk)⟩
    rcases hown.2 with ⟨_, h2⟩ | ⟨g', cap', cur, hv', hB', r⟩
    · omega
    · exact Or.inr ⟨g', cap', cur, hv', by omega, r⟩

set_option maxHeartbeats 2000000 in
set_option maxRecDepth 100000 in
/-- slices.Insert, i < len(s), no room: a new row. -/
theorem ins8_grow (w : World) (B g n cap i vb : Nat) (y : Value) (xs : List Value) (hi : i < n) (hfull : cap < n + 1) (ho : w.ownsRow B 27 1 (.slice (some ⟨g, 0, none⟩) n cap) n xs) (hn : n ≤ 1000000) (hv : w.rowIs vb 27 1 (fun _ => y)) (hy : y.oneCell' = true) (h1 : ∀ u, u ∈ xs → u.oneCell' = true) (hB : B ≤ w.heap.size) :
    Calls Yba.prog 8 #[.slice (some ⟨g, 0, none⟩) n cap, .int .i64 i, .slice (some ⟨vb, 0, none⟩) 1 1] w fun e w' => ∃ v', e = .returned v' ∧ w'.ownsRow B 27 1 v' (n + 1) (xs.take i ++ y :: xs.drop i) ∧ Kept (fun _ => False) w w' := by
  obtain ⟨f, hr, hx, hBg, hnc, hc63, hl⟩ := row_of_own ho
  obtain ⟨i0, hi0, hz0, hzs, hzb⟩ := info_parts info27
  have hgw : g < w.heap.size := hr.lt
  have hvw : vb < w.heap.size := hv.lt
  have hkk : (n : Int) + 1 - (i : Int) = ((n + 1 - i : Nat) : Int) := by omega
  have hik : i + (n + 1 - i) = n + 1 := by omega
  have hold : (Builtin.firstCells i0.size i (.slice (some ⟨g, 0, none⟩) i cap)).run Yba.prog w.drew = .ok (xs.take i).toArray w.drew := by
    rw [hzs]
    exact run_firstCells_some w.drew 1 i ⟨g, 0, none⟩ i cap (xs.take i) (by rw [List.length_take]; omega) (fun j v hj => by
      rw [Addr.add_lit, Nat.zero_add]
      rw [List.getElem?_take] at hj
      split at hj
      · rename_i hji
        rw [hx j (by omega)] at hj
        cases hj
        exact hr.cell (by omega)
      · cases hj)
  obtain ⟨GC, hGC⟩ : ∃ GC, GC = grownCap w (n + 1) cap 27 := ⟨_, rfl⟩
  have hGn : n + 1 ≤ GC := by rw [hGC]; exact grownCap_ge w _ _ _
  have hG63 : GC ≤ 9223372036854775807 := by
    have := grownCap_le_maxLen w (n + 1) cap 27 (by unfold maxLen; omega)
    rw [← hGC] at this
    unfold maxLen at this
    omega
  obtain ⟨ROW, hROW⟩ : ∃ ROW : Array Value, ROW = (xs.take i).toArray ++ Builtin.zeroCells (Value.slice none 0 0).cells (n + 1 - i) ++ Builtin.zeroCells (Value.slice none 0 0).cells (GC - (n + 1)) := ⟨_, rfl⟩
  have hrz : ∀ ty, (Builtin.append_ #[24, 3] ty #[.slice (some ⟨g, 0, none⟩) i cap, .int .i64 ((n : Int) + 1 - (i : Int))]).run Yba.prog w =
      .ok (.slice (some ⟨w.heap.size, 0, none⟩) (n + 1) GC) (w.drew.alloc (.cells ROW 27)) := fun ty => by
    have h := Lib.run_append_grow_zeros w 24 3 ty 27 i0 _ .i64 .i64 Yba.underlying24 Yba.underlying3 hi0 hz0 (some ⟨g, 0, none⟩) i cap (xs.take i) hold (n + 1 - i) (by omega) (by omega) (by omega) (by omega) (by rw [hzb]; omega) (by rw [hzb, hik]; exact growslice_fits hfull (by omega))
    rw [hik, ← hGC, ← hROW] at h
    rw [hkk]
    exact h
  have hRs : ROW.size = GC := by
    rw [hROW]
    simp [Builtin.zeroCells, Value.cells, List.length_take]
    omega
  have hrow1 : (w.alloc (.cells ROW 27)).rowIs w.heap.size 27 GC (fun j => ROW[j]?.getD undef) := by
    have := World.rowIs_alloc w ROW 27 (fun j => ROW[j]?.getD undef) (fun j hj => by
      show ROW[j]? = some (ROW[j]?.getD undef)
      rw [Array.getElem?_eq_getElem hj]; rfl)
    rw [hRs] at this
    exact this
  have hvn : vb ≠ w.heap.size := by omega
  have hgn : g ≠ w.heap.size := by omega
  have hpre : ∀ j, j < i → ROW[j]?.getD undef = f j := fun j hj => by
    rw [hROW, Array.getElem?_append_left (by simp; omega), Array.getElem?_append_left (by simp; omega)]
    simp only [List.getElem?_toArray, List.getElem?_take, if_pos hj]
    rw [hx j (by omega)]; rfl
  have hv0 : (w.alloc (.cells ROW 27)).drew.rowIs vb 27 1 (fun _ => y) := (hv.alloc _).drew
  have hg0 : (w.alloc (.cells ROW 27)).drew.rowIs g 27 cap f := (hr.alloc _).drew
  have h1f : ∀ j, j < n → (f j).oneCell' = true := fun j hj => h1 _ (List.mem_of_getElem? (hx j hj))
  obtain ⟨W1, hcp1, hr1, hk1⟩ := copy_row 24 27 Yba.underlying24 size27 (w.alloc (.cells ROW 27)).drew w.heap.size 27 i GC (n + 1 - i) (GC - i) ⟨vb, 0, none⟩ 1 1 _ [y] hrow1.drew
    (by simp only [List.length_singleton, Nat.min_def]; split <;> omega) (fun j v hj => by
      match j, hj with
      | 0, hj => simp at hj; subst hj; rw [Addr.add_lit]; exact hv0.cell (by omega)) (by simp; omega) (fun v hv' => by simp at hv'; subst hv'; exact hy)
  have hg1 : W1.rowIs g 27 cap f := hk1.rowIs hg0 hgn
  obtain ⟨W2, hcp2, hr2, hk2⟩ := copy_row 24 27 Yba.underlying24 size27 W1.drew w.heap.size 27 (i + 1) GC (n - i) (GC - (i + 1)) ⟨g, i, none⟩ (n - i) (cap - i) _ (cut f i n) hr1.drew
    (by rw [cut_length]; simp) (fun j v hj => by obtain ⟨h2, rfl⟩ := cut_get hj; rw [Addr.add_lit]; exact hg1.drew.cell (by omega)) (by rw [cut_length]; omega)
    (fun v hv' => by obtain ⟨j, hj, rfl⟩ := List.mem_map.1 hv'; exact h1f _ (by have := List.mem_range.1 hj; omega))
  have hfin : W2.ownsRow B 27 1 (.slice (some ⟨w.heap.size, 0, none⟩) (n + 1) GC) (n + 1) (xs.take i ++ y :: xs.drop i) := by
    refine own_of_row hr2 (fun j hj => ?_) (by simp [hl]; omega) hB hGn hG63
    rw [ins_get xs y i n f (by omega) hl hx j hj, cut_length, List.length_singleton]
    unfold shifted
    congr 1
    by_cases e : j = i
    · subst e; rw [if_pos rfl, if_neg (by omega), if_pos (by omega), Nat.sub_self]; rfl
    · rw [if_neg e]
      by_cases e2 : i < j ∧ j ≤ n
      · rw [if_pos e2, if_pos (by omega), cut_getD _ _ _ _ (by omega), show i + (j - (i + 1)) = j - 1 by omega]
      · rw [if_neg e2, if_neg (by omega), if_neg (by omega), hpre j (by omega)]
  have hkf : Kept (fun _ => False) w W2 := by
    have h1' : Kept (fun k => k = w.heap.size) w W2 := ((((Kept.refl _ w).alloc _).drew.trans hk1).drew).trans hk2
    exact ⟨h1'.os, h1'.tape, h1'.output, h1'.size, fun k hk _ => h1'.block k hk (by omega)⟩
  have H : Hid (_ ∧ _) := ⟨hfin, hkf⟩
  clear hfin hkf hr2 hk2 hr1 hk1 hg1 hv0 hg0 hrow1 hpre hr hx hv h1 h1f hROW hGC hold hRs ho
  have hw1 : IntKind.i64.wrap ((i : Int) + 1) = (i : Int) + 1 := by rw [IntKind.wrap_i64]; omega
  have hb1 : (0 : Int) ≤ (i : Int) + 1 := by omega
  have hin : i ≤ n := by omega
  have htn : ((i : Int) + 1).toNat = i + 1 := by omega
  have hb2 : ¬ (GC = i + 1) := by omega
  have hb3 : (i : Int) ≤ (n : Int) := by omega
  have hb4 : ¬ (GC = i) := by omega
  have hb5 : ¬ (cap = i) := by omega
  clear hkk hik
  go_enter Yba.func8, Yba.ntmps8
  go_wp2_with (at_builtin; refine Lib.wpList_append_run _ rfl _ _ _ _ rfl _ _ rfl rfl _ _ (hrz _) ?_)
  go_region_law (refine step_copy_run rfl (.tmp 50) (.tmp 53) 24 24 rfl (.slice (some ⟨w.heap.size, i + 1, none⟩) (n - i) (GC - (i + 1))) (.slice (some ⟨g, i, none⟩) (n - i) (cap - i)) (by simp [Act.eval, Act.put]) (by simp [Act.eval, Act.put]) (hcp2 _) ?_)
  go_wp2
  go_ret
  exact ⟨_, rfl, H.out⟩

/-- slices.Insert of one value, whatever the room. -/
theorem ins8_own (w : World) (B g n cap i vb : Nat) (y : Value) (xs : List Value) (hi : i ≤ n) (ho : w.ownsRow B 27 1 (.slice (some ⟨g, 0, none⟩) n cap) n xs) (hn : n ≤ 1000000) (hne : vb ≠ g) (hv : w.rowIs vb 27 1 (fun _ => y)) (hy : y.oneCell' = true) (h1 : ∀ u, u ∈ xs → u.oneCell' = true) (hB : B ≤ w.heap.size) :
    Calls Yba.prog 8 #[.slice (some ⟨g, 0, none⟩) n cap, .int .i64 i, .slice (some ⟨vb, 0, none⟩) 1 1] w fun e w' => ∃ v', e = .returned v' ∧ w'.ownsRow B 27 1 v' (n + 1) (xs.take i ++ y :: xs.drop i) ∧ Kept (fun k => k = g ∧ n < cap) w w' := by
  obtain ⟨f, hr, hx, hBg, hnc, hc63, hl⟩ := row_of_own ho
  by_cases hin : i = n
  · subst hin
    refine (ins8_end w B g i cap vb y xs ho hn hv hy hB).mono ?_
    rintro e w' ⟨v', rfl, h2, h3⟩
    refine ⟨v', rfl, ?_, h3⟩
    rw [List.take_of_length_le (by omega), List.drop_of_length_le (by omega)]
    exact h2
  · by_cases hroom : n + 1 ≤ cap
    · refine (ins8_shift w g n cap i vb y f (by omega) hroom hc63 hne hr hv (fun j hj => h1 _ (List.mem_of_getElem? (hx j hj))) hy).mono ?_
      rintro e w' ⟨rfl, h2, h3⟩
      exact ⟨_, rfl, own_of_row h2 (fun j hj => ins_get xs y i n f hi hl hx j hj) (by simp [hl]; omega) hBg hroom hc63, h3.mono (fun k hk => ⟨hk, by omega⟩)⟩
    · refine (ins8_grow w B g n cap i vb y xs (by omega) (by omega) ho hn hv hy h1 hB).mono ?_
      rintro e w' ⟨v', rfl, h2, h3⟩
      exact ⟨v', rfl, h2, h3.mono (fun k hk => False.elim hk)⟩


end Go.Proofs.Ybulkdklm.E
