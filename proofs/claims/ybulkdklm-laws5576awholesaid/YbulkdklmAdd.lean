/-
  (*elementIndex).put (function 4).
-/
import Derived.Test.YbulkdklmPut
namespace Go.Proofs.Ybulkdklm.E
open Go.RowKit Go.Deep
set_option linter.unusedVariables false

theorem rowIs_type {w : World} {b : Nat} {t t' : TypeId} {n n' : Nat} {f f' : Nat → Value} (h : w.rowIs b t n f) (h' : w.rowIs b t' n' f') : t = t' := by
  obtain ⟨c1, e1, _⟩ := h
  obtain ⟨c2, e2, _⟩ := h'
  rw [e1] at e2
  simp at e2
  exact e2.2

theorem Kept.undrew {p : Nat → Prop} {w w' : World} (h : Kept p w.drew w') : Kept p w w' := ⟨h.os, h.tape, h.output, h.size, h.block⟩

/-- What put may write: the index itself and page lists. -/
def Mine (w : World) (D : Nat) (k : Nat) : Prop := k = D ∨ (D < k ∧ ∃ n f, w.rowIs k 27 n f)

/-- A span put in. -/
def ins (ps : List Nat) (i s : Nat) : List Nat := ps.take i ++ s :: ps.drop i
theorem ins_length (ps : List Nat) (i s : Nat) : (ins ps i s).length = ps.length + 1 := by
  have := List.take_append_drop i ps
  have h := congrArg List.length this
  simp [ins] at h ⊢; omega
theorem ins_ne (ps : List Nat) (i s : Nat) : ins ps i s ≠ [] := by
  intro e
  have := ins_length ps i s
  rw [e] at this; simp at this

set_option maxHeartbeats 1000000 in
theorem ins_at (W : World) (D B g0 cap0 g n cap p i s : Nat) (hs : List Value) (ps : List Nat) (i' : Int) (hI : Idx W D B (.slice (some ⟨g0, 0, none⟩) hs.length cap0) hs) (hp : p < hs.length) (hgp : hs.getD p undef = .slice (some ⟨g, 0, none⟩) n cap)
    (hpg : Pg W B (.slice (some ⟨g, 0, none⟩) n cap) ps) (hn : ps.length = n) (hn2 : n ≤ 128) (hi : i ≤ n) (hi' : i' = i) :
    Calls Yba.prog 6 #[.slice (some ⟨g, 0, none⟩) n cap, .int .i64 i', .slice (some ⟨W.heap.size, 0, none⟩) 1 1] (W.alloc (.cells #[ptr s] 29)) fun e w' => ∃ g3 c3, e = .returned (.slice (some ⟨g3, 0, none⟩) (n + 1) c3) ∧
      Idx w' D B (.slice (some ⟨g0, 0, none⟩) hs.length cap0) hs ∧ Pg w' B (.slice (some ⟨g3, 0, none⟩) (n + 1) c3) (ins ps i s) ∧ Kept (fun k => k = g ∧ n < cap) W w' ∧
      w'.cell? ⟨D, 0, none⟩ = some (.slice (some ⟨g0, 0, none⟩) hs.length cap0) ∧ w'.cell? ⟨g0, p, none⟩ = some (.slice (some ⟨g, 0, none⟩) n cap) ∧ w'.frozen? ⟨g0, p, none⟩ = false ∧ g3 ≠ g0 := by
  subst hi'
  obtain ⟨g', c', hgv, hBg, f, hr, hf, hcl, hc63⟩ := hpg.shape
  rw [hn] at hgv
  cases hgv
  have hgg0 : g ≠ g0 := by
    rintro rfl
    obtain ⟨f0, hr0, _⟩ := row_of_own hI.own
    have := rowIs_type hr0 hr
    simp at this
  have hd := hI.dlt
  have ho := hpg.1
  rw [hn] at ho
  have hK0 : Kept (fun _ => False) W (W.alloc (.cells #[ptr s] 29)) := (Kept.refl _ W).alloc _
  have ho2 := hK0.owns ho (fun _ _ x => x)
  have hlt := hr.lt
  have hrm := hI.room
  have hv : (W.alloc (.cells #[ptr s] 29)).rowIs W.heap.size 29 1 (fun _ => ptr s) := World.rowIs_alloc W _ 29 _ (fun i hi => by
      have : i = 0 := by simpa using hi
      subst this; rfl)
  refine (ins6_own (W.alloc (.cells #[ptr s] 29)) B g n cap i W.heap.size (ptr s) (ps.map ptr) hi ho2 (by omega) (by omega) hv rfl (one_ptrs _) (by simp; omega)).mono ?_
  rintro e w' ⟨v', rfl, ho3, hk3⟩
  have hk : Kept (fun k => k = g ∧ n < cap) W w' := (hK0.noneToB _).trans hk3
  have hI' : Idx w' D B (.slice (some ⟨g0, 0, none⟩) hs.length cap0) hs := hI.kept hk (fun e => by omega) (fun e => hgg0 e.1.symm)
  obtain ⟨g3, c3, rfl⟩ : ∃ g3 c3, v' = .slice (some ⟨g3, 0, none⟩) (n + 1) c3 := by
    rcases ho3.2 with ⟨_, h2⟩ | ⟨g3, c3, _, hv, _⟩
    · omega
    · exact ⟨g3, c3, hv⟩
  have ho4 : w'.ownsRow B 29 1 (.slice (some ⟨g3, 0, none⟩) (n + 1) c3) (ins ps i s).length ((ins ps i s).map ptr) := by
    rw [ins_length, hn]
    simpa [ins, List.map_take, List.map_drop] using ho3
  obtain ⟨g0', cap0', hv0, hB0, hc0, hc1, hcell, hfro, hg0, hDg⟩ := hI'.shape (by omega)
  cases hv0
  refine ⟨g3, c3, rfl, hI', ⟨ho4, ins_ne _ _ _⟩, hk, hI'.box.cell (by omega), by rw [hcell p hp, hgp], hfro p, ?_⟩
  rintro rfl
  obtain ⟨f0, hr0, _⟩ := row_of_own hI'.own
  obtain ⟨f1, hr1, _⟩ := row_of_own ho3
  have := rowIs_type hr0 hr1
  simp at this

theorem after7 {w1 : World} {D B g0 cap0 m p g3 n3 c3 : Nat} {hs : List Value} {ps : List Nat} (hm : hs.length = m) (h : Idx w1 D B (.slice (some ⟨g0, 0, none⟩) m cap0) hs) (hp : Pg w1 B (.slice (some ⟨g3, 0, none⟩) n3 c3) ps) (hne : g3 ≠ g0) :
    Idx (w1.setCell ⟨g0, p, none⟩ (.slice (some ⟨g3, 0, none⟩) n3 c3)) D B (.slice (some ⟨g0, 0, none⟩) m cap0) (hs.set p (.slice (some ⟨g3, 0, none⟩) n3 c3)) ∧
    Pg (w1.setCell ⟨g0, p, none⟩ (.slice (some ⟨g3, 0, none⟩) n3 c3)) B (.slice (some ⟨g3, 0, none⟩) n3 c3) ps := by
  subst hm
  refine ⟨h.put _, hp.kept (Kept.setCell (p := fun k => k = g0) (Kept.refl _ w1) (x := ⟨g0, p, none⟩) rfl _) (fun k e => by simp [Value.ownBlock] at e; omega)⟩

theorem Idx.mine {w : World} {D B g0 cap0 m : Nat} {hs : List Value} (h : Idx w D B (.slice (some ⟨g0, 0, none⟩) m cap0) hs) (hm : hs.length = m) : Mine w D g0 := by
  subst hm
  exact Or.inr ((row_of_own h.own).elim fun f hf => ⟨Nat.lt_of_lt_of_le h.dlt hf.2.2.1, _, f, hf.1⟩)

set_option maxHeartbeats 4000000 in
set_option maxRecDepth 100000 in
theorem put_room (w : World) (D B p g0 cap0 g n j s : Nat) (I : Int) (hs : List Value) (ps : List Nat) (h : Idx w D B (.slice (some ⟨g0, 0, none⟩) hs.length cap0) hs) (hp : p < hs.length) (hgp : hs.getD p undef = .slice (some ⟨g, 0, none⟩) n n)
    (hps : Pg w B (.slice (some ⟨g, 0, none⟩) n n) ps) (hlen : ps.length = n) (hn : n < 128) (hj : j ≤ n) (hI : I + 1 = j) (hm : hs.length ≤ 1000) :
    Calls Yba.prog 4 #[.pointer (some ⟨D, 0, none⟩), .int .i64 p, .int .i64 I, ptr s] w fun e w' => e = .returned (.tuple #[]) ∧ ∃ v' u, Idx w' D B v' (hs.set p u) ∧ Pg w' B u (ins ps j s) ∧ Kept (Mine w D) w w' := by
  have hw : IntKind.i64.wrap (I + 1) = (j : Int) := by rw [hI, IntKind.wrap_i64]; omega
  have hI1 : Idx w.drew D B (.slice (some ⟨g0, 0, none⟩) hs.length cap0) hs := h.kept (Kept.refl (fun _ => False) w).drew (fun x => x) (fun x => x)
  have hc := ins_at w.drew D B g0 cap0 g n n p j s hs ps _ hI1 hp hgp ⟨hps.1, hps.2⟩ hlen (by omega) hj rfl
  rw [show w.drew.alloc (.cells #[ptr s] 29) = (w.alloc (.cells #[ptr s] 29)).drew from rfl, show w.drew.heap.size = w.heap.size from rfl] at hc
  obtain ⟨g0', cap0', hv0, hB0, hc0, hc1, hcell, hfro, hg0, hDg⟩ := h.shape (by omega)
  cases hv0
  have hd := h.dlt
  have d0 : w.cell? ⟨D, 0, none⟩ = some (.slice (some ⟨g0, 0, none⟩) hs.length cap0) := h.box.cell (by omega)
  have hD : D < w.heap.size := h.box.lt
  have cp : w.cell? ⟨g0, p, none⟩ = some (.slice (some ⟨g, 0, none⟩) n n) := by rw [hcell p hp, hgp]
  have fp : w.frozen? ⟨g0, p, none⟩ = false := hfro p
  have hn128 : n ≠ 128 := by omega
  have hm0 : hs.length ≠ 0 := by omega
  have hM : Mine w D g0 := Or.inr ((row_of_own h.own).elim fun f hf => ⟨Nat.lt_of_lt_of_le h.dlt hf.2.2.1, _, f, hf.1⟩)
  have CL : Hid (Calls _ _ _ _ _) := hc
  have HH : Hid (Mine w D g0) := hM
  clear hc hM hcell hfro hgp hps h hI1 hlen hI
  go_enter Yba.func4, Yba.ntmps4
  go_wp2_with fail
  go_region_with (go_at_call 6; refine CL.out.mono ?_; rintro e w1 ⟨g3, c3, rfl, hx1, hx2, hx3, hx4, hx5, hx6, hx7⟩)
  all_goals go_wp2_with fail
  all_goals go_end0
  all_goals exact ⟨rfl, _, _, (after7 rfl hx1 hx2 hx7).1, (after7 rfl hx1 hx2 hx7).2, Kept.setCell (p := Mine w D) (hx3.undrew.mono (fun k hk => by omega)) (x := ⟨g0, p, none⟩) HH.out _⟩

/-- Behind the split of a full page: what the rest of put needs, first half. -/
theorem full_lo (w : World) (D B p g0 cap0 g c j j2 q s : Nat) (hs : List Value) (ps : List Nat) (h : Idx w D B (.slice (some ⟨g0, 0, none⟩) hs.length cap0) hs) (hp : p < hs.length) (hgp : hs.getD p undef = .slice (some ⟨g, 0, none⟩) 128 c)
    (hps : Pg w B (.slice (some ⟨g, 0, none⟩) 128 c) ps) (hlen : ps.length = 128) (hm : hs.length ≤ 1000) (hone : ∀ u, u ∈ hs → u.oneCell' = true) (hj2 : j2 ≤ 64) (hq : q = p) :
    Calls Yba.prog 5 #[.pointer (some ⟨D, 0, none⟩), .int .i64 p] w fun e wc => ∃ g1 m1 cap1 a1 c1 gq cq, e = .returned (.tuple #[]) ∧
      wc.cell? ⟨D, 0, none⟩ = some (.slice (some ⟨g1, 0, none⟩) m1 cap1) ∧ wc.cell? ⟨g1, p, none⟩ = some (.slice (some ⟨a1, 0, none⟩) 64 c1) ∧ wc.cell? ⟨g1, q, none⟩ = some (.slice (some ⟨gq, 0, none⟩) 64 cq) ∧ wc.frozen? ⟨g1, q, none⟩ = false ∧
      D < wc.heap.size ∧ g1 < wc.heap.size ∧ p < m1 ∧ q < m1 ∧ m1 ≤ 1001 ∧
      Hid (Calls Yba.prog 6 #[.slice (some ⟨gq, 0, none⟩) 64 cq, .int .i64 j2, .slice (some ⟨wc.heap.size, 0, none⟩) 1 1] (wc.alloc (.cells #[ptr s] 29)).drew fun e w' => ∃ g3 c3, e = .returned (.slice (some ⟨g3, 0, none⟩) 65 c3) ∧
        w'.cell? ⟨D, 0, none⟩ = some (.slice (some ⟨g1, 0, none⟩) m1 cap1) ∧ w'.cell? ⟨g1, q, none⟩ = some (.slice (some ⟨gq, 0, none⟩) 64 cq) ∧ w'.frozen? ⟨g1, q, none⟩ = false ∧
        Hid (∃ v' h1 h2, Idx (w'.setCell ⟨g1, q, none⟩ (.slice (some ⟨g3, 0, none⟩) 65 c3)) D B v' (hs.take p ++ h1 :: h2 :: hs.drop (p + 1)) ∧ Pg (w'.setCell ⟨g1, q, none⟩ (.slice (some ⟨g3, 0, none⟩) 65 c3)) B h1 (ins (ps.take 64) j2 s) ∧
          Pg (w'.setCell ⟨g1, q, none⟩ (.slice (some ⟨g3, 0, none⟩) 65 c3)) B h2 (ps.drop 64) ∧ Kept (Mine w D) w (w'.setCell ⟨g1, q, none⟩ (.slice (some ⟨g3, 0, none⟩) 65 c3)))) := by
  have hM := h.mine rfl
  refine (split_any w D B p g0 cap0 g c hs ps h hp hgp hps hlen hm hone).mono ?_
  rintro e wc ⟨rfl, v', h1, h2, hI, hP1, hP2, hk, hb1, hb2, hne⟩
  have hl1 : (ps.take 64).length = 64 := by simp [hlen]
  have hl2 : (ps.drop 64).length = 64 := by simp [hlen]
  obtain ⟨hs1, hhs⟩ : ∃ l, l = hs.take p ++ h1 :: h2 :: hs.drop (p + 1) := ⟨_, rfl⟩
  have hsl : hs1.length = hs.length + 1 := by rw [hhs]; simp; omega
  have htl : (hs.take p).length = p := by simp; omega
  have hget0 : hs1.getD p undef = h1 := by rw [hhs, List.getD_eq_getElem?_getD, List.getElem?_append_right (by omega), htl, Nat.sub_self]; rfl
  have hget1 : hs1.getD (p + 1) undef = h2 := by rw [hhs, List.getD_eq_getElem?_getD, List.getElem?_append_right (by omega), htl, show p + 1 - p = 1 by omega]; rfl
  rw [← hhs] at hI
  obtain ⟨a1, c1, e1, hB1, _⟩ := hP1.shape
  obtain ⟨a2, c2, e2, hB2, _⟩ := hP2.shape
  rw [hl1] at e1
  rw [hl2] at e2
  have hI' := hI
  obtain ⟨g1, cap1, hv1, hBg1, _, _, hcell, hfro, hg1, hDg1⟩ := hI.shape (by omega)
  subst hv1
  subst e1
  subst e2
  simp only [Value.ownBlock, Option.some.injEq, forall_eq', ne_eq] at hb1 hb2 hne
  refine ⟨g1, hs1.length, cap1, a1, c1, a1, c1, rfl, hI.box.cell (by omega), by rw [hcell p (by omega), hget0], by rw [hcell q (by omega), hq, hget0], hfro q, hI.box.lt, hg1, by omega, by omega, by omega, ?_⟩
  have hId : Idx wc.drew D B (.slice (some ⟨g1, 0, none⟩) hs1.length cap1) hs1 := hI.kept (Kept.refl (fun _ => False) wc).drew (fun x => x) (fun x => x)
  have hc := ins_at wc.drew D B g1 cap1 a1 64 c1 q j2 s hs1 (ps.take 64) (j2 : Int) hId (by omega) (by rw [hq, hget0]) ⟨hP1.1, hP1.2⟩ hl1 (by omega) hj2 rfl
  rw [show wc.drew.alloc (.cells #[ptr s] 29) = (wc.alloc (.cells #[ptr s] 29)).drew from rfl, show wc.drew.heap.size = wc.heap.size from rfl] at hc
  refine hc.mono ?_
  rintro e w' ⟨g3, c3, rfl, hJ, hPg, hkj, hd, hce, hfr, hg3⟩
  refine ⟨g3, c3, rfl, hd, hce, hfr, ?_⟩
  have hA := after7 (p := q) rfl hJ hPg hg3
  have hg1t : ∀ k n' f', wc.rowIs k 29 n' f' → k ≠ g1 := by
    rintro k n' f' hr rfl
    obtain ⟨f0, hr0, _⟩ := row_of_own hI.own
    have := rowIs_type hr0 hr
    simp at this
  have hko : Kept (fun k => k = a1 ∨ k = g1) wc (w'.setCell ⟨g1, q, none⟩ (.slice (some ⟨g3, 0, none⟩) 65 c3)) :=
    Kept.setCell (p := fun k => k = a1 ∨ k = g1) (show Kept _ wc w' from ⟨hkj.os, hkj.tape, hkj.output, hkj.size, fun k hk hn => hkj.block k hk (fun e => hn (Or.inl e.1))⟩) (x := ⟨g1, q, none⟩) (Or.inr rfl) _
  have hother : Pg (w'.setCell ⟨g1, q, none⟩ (.slice (some ⟨g3, 0, none⟩) 65 c3)) B (.slice (some ⟨a2, 0, none⟩) 64 c2) (ps.drop 64) :=
    hP2.kept hko (fun k e => by
      simp only [Value.ownBlock, Option.some.injEq] at e
      subst e
      rintro (e | e)
      · omega
      · have ho := hP2.1
        rw [hl2] at ho
        obtain ⟨f5, hr5, _⟩ := row_of_own ho
        exact hg1t _ _ _ hr5 e)
  have hset : hs1.set q (.slice (some ⟨g3, 0, none⟩) 65 c3) = hs.take p ++ .slice (some ⟨g3, 0, none⟩) 65 c3 :: .slice (some ⟨a2, 0, none⟩) 64 c2 :: hs.drop (p + 1) := by
    rw [hhs, hq, List.set_append_right _ _ (by omega), htl]
    simp
  have hA1 := hA.1
  rw [hset] at hA1
  refine ⟨_, _, _, hA1, hA.2, hother, ?_⟩
  refine ⟨hko.os.trans hk.os, hko.tape.trans hk.tape, hko.output.trans hk.output, Nat.le_trans hk.size hko.size, fun k hkl hn => ?_⟩
  have hblk : wc.heap[k]? = w.heap[k]? := hk.block k hkl (by
    rintro (e | e)
    · exact hn (Or.inl e)
    · exact hn (e ▸ hM))
  rw [hko.block k (Nat.lt_of_lt_of_le hkl hk.size) ?_, hblk]
  rintro (e | e)
  · omega
  · subst e
    obtain ⟨f0, hr0, _, hB1, _⟩ := row_of_own hI.own
    exact hn (Or.inr ⟨Nat.lt_of_lt_of_le hI.dlt hB1, _, _, hr0.of_block hblk.symm⟩)

/-- Behind the split of a full page: what the rest of put needs, second half. -/
theorem full_hi (w : World) (D B p g0 cap0 g c j j2 q s : Nat) (hs : List Value) (ps : List Nat) (h : Idx w D B (.slice (some ⟨g0, 0, none⟩) hs.length cap0) hs) (hp : p < hs.length) (hgp : hs.getD p undef = .slice (some ⟨g, 0, none⟩) 128 c)
    (hps : Pg w B (.slice (some ⟨g, 0, none⟩) 128 c) ps) (hlen : ps.length = 128) (hm : hs.length ≤ 1000) (hone : ∀ u, u ∈ hs → u.oneCell' = true) (hj2 : j2 ≤ 64) (hq : q = p + 1) :
    Calls Yba.prog 5 #[.pointer (some ⟨D, 0, none⟩), .int .i64 p] w fun e wc => ∃ g1 m1 cap1 a1 c1 gq cq, e = .returned (.tuple #[]) ∧
      wc.cell? ⟨D, 0, none⟩ = some (.slice (some ⟨g1, 0, none⟩) m1 cap1) ∧ wc.cell? ⟨g1, p, none⟩ = some (.slice (some ⟨a1, 0, none⟩) 64 c1) ∧ wc.cell? ⟨g1, q, none⟩ = some (.slice (some ⟨gq, 0, none⟩) 64 cq) ∧ wc.frozen? ⟨g1, q, none⟩ = false ∧
      D < wc.heap.size ∧ g1 < wc.heap.size ∧ p < m1 ∧ q < m1 ∧ m1 ≤ 1001 ∧
      Hid (Calls Yba.prog 6 #[.slice (some ⟨gq, 0, none⟩) 64 cq, .int .i64 j2, .slice (some ⟨wc.heap.size, 0, none⟩) 1 1] (wc.alloc (.cells #[ptr s] 29)).drew fun e w' => ∃ g3 c3, e = .returned (.slice (some ⟨g3, 0, none⟩) 65 c3) ∧
        w'.cell? ⟨D, 0, none⟩ = some (.slice (some ⟨g1, 0, none⟩) m1 cap1) ∧ w'.cell? ⟨g1, q, none⟩ = some (.slice (some ⟨gq, 0, none⟩) 64 cq) ∧ w'.frozen? ⟨g1, q, none⟩ = false ∧
        Hid (∃ v' h1 h2, Idx (w'.setCell ⟨g1, q, none⟩ (.slice (some ⟨g3, 0, none⟩) 65 c3)) D B v' (hs.take p ++ h1 :: h2 :: hs.drop (p + 1)) ∧ Pg (w'.setCell ⟨g1, q, none⟩ (.slice (some ⟨g3, 0, none⟩) 65 c3)) B h1 (ps.take 64) ∧
          Pg (w'.setCell ⟨g1, q, none⟩ (.slice (some ⟨g3, 0, none⟩) 65 c3)) B h2 (ins (ps.drop 64) j2 s) ∧ Kept (Mine w D) w (w'.setCell ⟨g1, q, none⟩ (.slice (some ⟨g3, 0, none⟩) 65 c3)))) := by
  have hM := h.mine rfl
  refine (split_any w D B p g0 cap0 g c hs ps h hp hgp hps hlen hm hone).mono ?_
  rintro e wc ⟨rfl, v', h1, h2, hI, hP1, hP2, hk, hb1, hb2, hne⟩
  have hl1 : (ps.take 64).length = 64 := by simp [hlen]
  have hl2 : (ps.drop 64).length = 64 := by simp [hlen]
  obtain ⟨hs1, hhs⟩ : ∃ l, l = hs.take p ++ h1 :: h2 :: hs.drop (p + 1) := ⟨_, rfl⟩
  have hsl : hs1.length = hs.length + 1 := by rw [hhs]; simp; omega
  have htl : (hs.take p).length = p := by simp; omega
  have hget0 : hs1.getD p undef = h1 := by rw [hhs, List.getD_eq_getElem?_getD, List.getElem?_append_right (by omega), htl, Nat.sub_self]; rfl
  have hget1 : hs1.getD (p + 1) undef = h2 := by rw [hhs, List.getD_eq_getElem?_getD, List.getElem?_append_right (by omega), htl, show p + 1 - p = 1 by omega]; rfl
  rw [← hhs] at hI
  obtain ⟨a1, c1, e1, hB1, _⟩ := hP1.shape
  obtain ⟨a2, c2, e2, hB2, _⟩ := hP2.shape
  rw [hl1] at e1
  rw [hl2] at e2
  have hI' := hI
  obtain ⟨g1, cap1, hv1, hBg1, _, _, hcell, hfro, hg1, hDg1⟩ := hI.shape (by omega)
  subst hv1
  subst e1
  subst e2
  simp only [Value.ownBlock, Option.some.injEq, forall_eq', ne_eq] at hb1 hb2 hne
  refine ⟨g1, hs1.length, cap1, a1, c1, a2, c2, rfl, hI.box.cell (by omega), by rw [hcell p (by omega), hget0], by rw [hcell q (by omega), hq, hget1], hfro q, hI.box.lt, hg1, by omega, by omega, by omega, ?_⟩
  have hId : Idx wc.drew D B (.slice (some ⟨g1, 0, none⟩) hs1.length cap1) hs1 := hI.kept (Kept.refl (fun _ => False) wc).drew (fun x => x) (fun x => x)
  have hc := ins_at wc.drew D B g1 cap1 a2 64 c2 q j2 s hs1 (ps.drop 64) (j2 : Int) hId (by omega) (by rw [hq, hget1]) ⟨hP2.1, hP2.2⟩ hl2 (by omega) hj2 rfl
  rw [show wc.drew.alloc (.cells #[ptr s] 29) = (wc.alloc (.cells #[ptr s] 29)).drew from rfl, show wc.drew.heap.size = wc.heap.size from rfl] at hc
  refine hc.mono ?_
  rintro e w' ⟨g3, c3, rfl, hJ, hPg, hkj, hd, hce, hfr, hg3⟩
  refine ⟨g3, c3, rfl, hd, hce, hfr, ?_⟩
  have hA := after7 (p := q) rfl hJ hPg hg3
  have hg1t : ∀ k n' f', wc.rowIs k 29 n' f' → k ≠ g1 := by
    rintro k n' f' hr rfl
    obtain ⟨f0, hr0, _⟩ := row_of_own hI.own
    have := rowIs_type hr0 hr
    simp at this
  have hko : Kept (fun k => k = a2 ∨ k = g1) wc (w'.setCell ⟨g1, q, none⟩ (.slice (some ⟨g3, 0, none⟩) 65 c3)) :=
    Kept.setCell (p := fun k => k = a2 ∨ k = g1) (show Kept _ wc w' from ⟨hkj.os, hkj.tape, hkj.output, hkj.size, fun k hk hn => hkj.block k hk (fun e => hn (Or.inl e.1))⟩) (x := ⟨g1, q, none⟩) (Or.inr rfl) _
  have hother : Pg (w'.setCell ⟨g1, q, none⟩ (.slice (some ⟨g3, 0, none⟩) 65 c3)) B (.slice (some ⟨a1, 0, none⟩) 64 c1) (ps.take 64) :=
    hP1.kept hko (fun k e => by
      simp only [Value.ownBlock, Option.some.injEq] at e
      subst e
      rintro (e | e)
      · omega
      · have ho := hP1.1
        rw [hl1] at ho
        obtain ⟨f5, hr5, _⟩ := row_of_own ho
        exact hg1t _ _ _ hr5 e)
  have hset : hs1.set q (.slice (some ⟨g3, 0, none⟩) 65 c3) = hs.take p ++ .slice (some ⟨a1, 0, none⟩) 64 c1 :: .slice (some ⟨g3, 0, none⟩) 65 c3 :: hs.drop (p + 1) := by
    rw [hhs, hq, List.set_append_right _ _ (by omega), htl]
    simp
  have hA1 := hA.1
  rw [hset] at hA1
  refine ⟨_, _, _, hA1, hother, hA.2, ?_⟩
  refine ⟨hko.os.trans hk.os, hko.tape.trans hk.tape, hko.output.trans hk.output, Nat.le_trans hk.size hko.size, fun k hkl hn => ?_⟩
  have hblk : wc.heap[k]? = w.heap[k]? := hk.block k hkl (by
    rintro (e | e)
    · exact hn (Or.inl e)
    · exact hn (e ▸ hM))
  rw [hko.block k (Nat.lt_of_lt_of_le hkl hk.size) ?_, hblk]
  rintro (e | e)
  · omega
  · subst e
    obtain ⟨f0, hr0, _, hB1, _⟩ := row_of_own hI.own
    exact hn (Or.inr ⟨Nat.lt_of_lt_of_le hI.dlt hB1, _, _, hr0.of_block hblk.symm⟩)
end Go.Proofs.Ybulkdklm.E
