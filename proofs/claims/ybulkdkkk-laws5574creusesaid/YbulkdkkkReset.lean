/-
  The contract of (*deep[int]).reset (function 10).
-/
import Derived.Test.YbulkdkkkRows
import Derived.WalkKit
import Derived.WalkSpells
import Derived.WalkLawsBesides
import Derived.Laws.CopyOwn
import Derived.Deep.OwnRows
import Derived.Lib.SliceRun
namespace Go.Proofs.Ybulkdkkk.C
open Go.RowKit Go.Deep
set_option linter.unusedVariables false

theorem zero25 (w : World) : (zeroValue 25).run Yba.prog w = .ok (.slice none 0 0) w := by kernel_rfl

/-- Blocks for which p does not hold are as they were; no block is new or gone. -/
structure Kept (p : Nat → Prop) (w w' : World) : Prop where
  os : w'.os = w.os
  tape : w'.tape = w.tape
  output : w'.output = w.output
  size : w.heap.size ≤ w'.heap.size
  block : ∀ k, k < w.heap.size → ¬ p k → w'.heap[k]? = w.heap[k]?

theorem Kept.refl (p : Nat → Prop) (w : World) : Kept p w w := ⟨rfl, rfl, rfl, Nat.le_refl _, fun _ _ _ => rfl⟩
theorem Kept.trans {p : Nat → Prop} {a b c : World} (h : Kept p a b) (k : Kept p b c) : Kept p a c :=
  ⟨k.os.trans h.os, k.tape.trans h.tape, k.output.trans h.output, Nat.le_trans h.size k.size, fun i hi hp => (k.block i (Nat.lt_of_lt_of_le hi h.size) hp).trans (h.block i hi hp)⟩
theorem Kept.setCell {p : Nat → Prop} {a w : World} (h : Kept p a w) {x : Addr} (hx : p x.block) (u : Value) : Kept p a (w.setCell x u) :=
  h.trans ⟨rfl, rfl, rfl, by simp [World.setCell], fun k _ hk => Below.heap_setCell _ _ _ _ (fun e => hk (e ▸ hx))⟩
theorem Kept.alloc {p : Nat → Prop} {a w : World} (h : Kept p a w) (o : Obj) : Kept p a (w.alloc o) :=
  h.trans ⟨rfl, rfl, rfl, by simp, fun _ hk _ => Below.heap_alloc _ _ _ hk⟩
theorem Kept.drew {p : Nat → Prop} {a w : World} (h : Kept p a w) : Kept p a w.drew := ⟨h.os, h.tape, h.output, h.size, h.block⟩
theorem Kept.grown {p : Nat → Prop} {a w w' : World} {row : Option Nat} (h : Kept p a w) (hg : w.grownBy w' row) (hr : ∀ k, row = some k → p k) : Kept p a w' :=
  h.trans ⟨hg.os, hg.tape, hg.output, hg.size, fun k hk hp => hg.block k hk (fun e => hp (hr k e.symm))⟩
theorem Kept.mono {p q : Nat → Prop} {a w : World} (h : Kept p a w) (hpq : ∀ k, p k → q k) : Kept q a w := ⟨h.os, h.tape, h.output, h.size, fun k hk hq => h.block k hk (fun hp => hq (hpq k hp))⟩
theorem Kept.below {p : Nat → Prop} {a w : World} {B : Nat} (h : Kept p a w) (hB : B ≤ a.heap.size) (hp : ∀ k, p k → B ≤ k) : Below B a w :=
  ⟨h.os, h.tape, h.output, h.size, fun k hk => h.block k (by omega) (fun e => by have := hp k e; omega)⟩
theorem Kept.rowIs {p : Nat → Prop} {a w : World} (h : Kept p a w) {b : Nat} {t : TypeId} {n : Nat} {f : Nat → Value} (hr : a.rowIs b t n f) (hb : ¬ p b) : w.rowIs b t n f :=
  hr.of_block (h.block b hr.lt hb)

theorem rowIs_setCells (g : Nat) (t : TypeId) (N : Nat) (z : Value) : ∀ (n o : Nat) (w : World) (f : Nat → Value), w.rowIs g t N f →
    (w.setCells g o (List.replicate n z)).rowIs g t N (fun i => if o ≤ i ∧ i < o + n then z else f i)
  | 0, o, w, f, h => by
    simp only [List.replicate_zero, World.setCells]
    exact h.congr (fun i _ => by rw [if_neg (by omega)])
  | n + 1, o, w, f, h => by
    simp only [List.replicate_succ, World.setCells]
    refine (rowIs_setCells g t N z n (o + 1) _ _ (h.set o z)).congr (fun i _ => ?_)
    by_cases e : i = o
    · subst e; simp
    · by_cases e2 : o ≤ i ∧ i < o + (n + 1)
      · rw [if_pos (by omega), if_pos e2]
      · rw [if_neg (by omega), if_neg e2, if_neg e]

theorem kept_setCells (p : Nat → Prop) (g : Nat) (hg : p g) : ∀ (vs : List Value) (o : Nat) (a w : World), Kept p a w → Kept p a (w.setCells g o vs)
  | [], _, _, _, h => h
  | v :: vs, o, a, w, h => by
    simp only [World.setCells]
    exact kept_setCells p g hg vs (o + 1) a _ (h.setCell hg v)

/-- What clear(d.blocks) does, as an equation for the walk. -/
theorem clear_run (w : World) (g m c N : Nat) (T : Nat → Value) (hm : 0 < m) (hN : m ≤ N) (h : w.rowIs g 25 N T) :
    ∃ w1, (∀ ty, (Builtin.clear_ #[24] ty #[.slice (some ⟨g, 0, none⟩) m c]).run Yba.prog w = .ok (.tuple #[]) w1) ∧
      w1.rowIs g 25 N (fun i => if i < m then .slice none 0 0 else T i) ∧ Kept (fun k => k = g) w w1 := by
  refine ⟨_, fun ty => Lib.run_clear_slice w 24 25 ty (.slice none 0 0) Yba.underlying24 zero25 rfl rfl g 0 m c hm (fun j hj => by rw [h.cell (i := 0 + j) (by omega)]; rfl) (fun j _ => h.frozen _), ?_, ?_⟩
  · exact (rowIs_setCells g 25 N _ m 0 w T h).congr (fun i _ => by simp)
  · exact kept_setCells (fun k => k = g) g rfl _ 0 w w (Kept.refl _ _)

set_option maxHeartbeats 400000 in
theorem reset_some (D g m cap N : Nat) (F T : Nat → Value) (A0 : Option Addr) (L0 C0 : Nat) (w : World) (hD : w.rowIs D 30 2 F) (hF : F 0 = .slice (some ⟨g, 0, none⟩) m cap) (hg : w.rowIs g 25 N T) (hm : 0 < m) (hN : m ≤ N)
    (hcap : m ≤ cap) (hT : T 0 = .slice A0 L0 C0) (hA0 : A0 = none → L0 = 0 ∧ C0 = 0) (hDg : D ≠ g) (hmax : cap ≤ 9223372036854775807) :
    Calls Yba.prog 10 #[.pointer (some ⟨D, 0, none⟩)] w fun e w' => e = .returned (.tuple #[]) ∧
      w'.rowIs D 30 2 (fun i => if i = 0 then .slice (some ⟨g, 0, none⟩) 0 cap else .slice A0 0 C0) ∧ w'.rowIs g 25 N (fun i => if i < m then .slice none 0 0 else T i) ∧ Kept (fun k => k = D ∨ k = g) w w' := by
  have c0 : w.cell? ⟨D, 0, none⟩ = some (.slice (some ⟨g, 0, none⟩) m cap) := by rw [← hF]; exact hD.cell (by omega)
  have f0 : w.frozen? ⟨D, 0, none⟩ = false := hD.frozen 0
  have c1 : w.cell? ⟨D, 1, none⟩ = some (F 1) := hD.cell (by omega)
  have f1 : w.frozen? ⟨D, 1, none⟩ = false := hD.frozen 1
  have cg : w.cell? ⟨g, 0, none⟩ = some (.slice A0 L0 C0) := by rw [← hT]; exact hg.cell (by omega)
  have hD1 := hD.set 1 (.slice A0 0 C0)
  have hg1 := hg.setOther (a := ⟨D, 1, none⟩) (Ne.symm hDg) (.slice A0 0 C0)
  obtain ⟨w1, hcl, hg2, hk⟩ := clear_run _ g m cap N T hm hN hg1
  have hD2 : w1.rowIs D 30 2 (fun i => if i = 1 then .slice A0 0 C0 else F i) := hk.rowIs hD1 hDg
  have hk2 : Kept (fun k => k = D ∨ k = g) w w1 := ((Kept.refl _ w).setCell (x := ⟨D, 1, none⟩) (Or.inl rfl) _).trans (hk.mono (fun k h => Or.inr h))
  have c2 : w1.cell? ⟨D, 0, none⟩ = some (.slice (some ⟨g, 0, none⟩) m cap) := by rw [← hF]; exact hD2.cell (i := 0) (by omega)
  have f2 : w1.frozen? ⟨D, 0, none⟩ = false := hD2.frozen 0
  have hfin : (w1.setCell ⟨D, 0, none⟩ (.slice (some ⟨g, 0, none⟩) 0 cap)).rowIs D 30 2 (fun i => if i = 0 then .slice (some ⟨g, 0, none⟩) 0 cap else .slice A0 0 C0) :=
    (hD2.set 0 _).congr (fun i hi => by
      by_cases e : i = 0
      · subst e; rfl
      · obtain rfl : i = 1 := by omega
        rfl)
  have hgf := hg2.setOther (a := ⟨D, 0, none⟩) (Ne.symm hDg) (.slice (some ⟨g, 0, none⟩) 0 cap)
  have hkf := hk2.setCell (x := ⟨D, 0, none⟩) (Or.inl rfl) (.slice (some ⟨g, 0, none⟩) 0 cap)
  have H : Hid (_ ∧ _ ∧ _) := ⟨hfin, hgf, hkf⟩
  clear hfin hgf hkf hk2 hk hg2 hD2 hD1 hg1 hF hT hD hg
  go_enter Yba.func10, Yba.ntmps10
  cases A0 with
  | none =>
    obtain ⟨rfl, rfl⟩ := hA0 rfl
    clear hA0
    go_wp2
    go_end0
    exact ⟨rfl, H.out⟩
  | some a0 =>
    clear hA0
    go_wp2
    go_end0
    exact ⟨rfl, H.out⟩
set_option maxHeartbeats 400000 in
theorem reset_none (D cap : Nat) (ab : Option Addr) (F : Nat → Value) (w : World) (hD : w.rowIs D 30 2 F) (hF : F 0 = .slice ab 0 cap) (hab : ab = none → cap = 0) (hmax : cap ≤ 9223372036854775807) :
    Calls Yba.prog 10 #[.pointer (some ⟨D, 0, none⟩)] w fun e w' => e = .returned (.tuple #[]) ∧ w'.rowIs D 30 2 F ∧ Kept (fun k => k = D) w w' := by
  have c0 : w.cell? ⟨D, 0, none⟩ = some (.slice ab 0 cap) := by rw [← hF]; exact hD.cell (by omega)
  have f0 : w.frozen? ⟨D, 0, none⟩ = false := hD.frozen 0
  have hcl : ∀ ty, (Builtin.clear_ #[24] ty #[.slice ab 0 cap]).run Yba.prog w = .ok (.tuple #[]) w := fun ty => by
    cases ab <;> simp [Builtin.clear_, run_underlying Yba.underlying24]
  have hfin : (w.setCell ⟨D, 0, none⟩ (.slice ab 0 cap)).rowIs D 30 2 F :=
    (hD.set 0 _).congr (fun i hi => by
      by_cases e : i = 0
      · subst e; exact hF.symm
      · rw [if_neg e])
  have hkf : Kept (fun k => k = D) w (w.setCell ⟨D, 0, none⟩ (.slice ab 0 cap)) := Kept.setCell (p := fun k => k = D) (Kept.refl _ w) (x := ⟨D, 0, none⟩) rfl _
  have H : Hid (_ ∧ _) := ⟨hfin, hkf⟩
  clear hfin hkf hF hD
  go_enter Yba.func10, Yba.ntmps10
  cases ab with
  | none =>
    obtain rfl := hab rfl
    clear hab
    go_wp2
    go_end0
    exact ⟨rfl, H.out⟩
  | some a0 =>
    clear hab
    go_wp2
    go_end0
    exact ⟨rfl, H.out⟩
end Go.Proofs.Ybulkdkkk.C
