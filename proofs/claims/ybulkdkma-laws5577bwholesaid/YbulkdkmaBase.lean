/-
  Frames, rows and the plain numbers of LawS5577BWhole: the little-endian bytes of a row, its words.
-/
import Derived.Test.YbulkdkmaRows
import Derived.WalkKit
import Derived.WalkSpells
import Derived.WalkLawsBesides
import Derived.Laws.CopyOwn
import Derived.Deep.OwnRows
import Derived.Deep.RegionLaw
import Derived.Deep.RegionWith
import Derived.BigRegion
import Derived.Lib.SliceRun
import Derived.Lib.EndianBits
import Derived.Deep.LoopGhost
import Derived.Deep.Light
import Derived.Deep.QuietTactic
import Derived.BigQuiet
import Derived.Deep.Draws
import Derived.Below
namespace Go.Proofs.Ybulkdkma.N
open Go.RowKit Go.Deep
set_option linter.unusedVariables false

/-- Blocks for which p does not hold are as they were. -/
structure Kept (p : Nat → Prop) (w w' : World) : Prop where
  os : w'.os = w.os
  tape : w'.tape = w.tape
  output : w'.output = w.output
  size : w.heap.size ≤ w'.heap.size
  block : ∀ k, k < w.heap.size → ¬ p k → w'.heap[k]? = w.heap[k]?

theorem Kept.refl (p : Nat → Prop) (w : World) : Kept p w w := ⟨rfl, rfl, rfl, Nat.le_refl _, fun _ _ _ => rfl⟩
theorem Kept.trans {p : Nat → Prop} {a b c : World} (h : Kept p a b) (k : Kept p b c) : Kept p a c :=
  ⟨k.os.trans h.os, k.tape.trans h.tape, k.output.trans h.output, Nat.le_trans h.size k.size, fun i hi hp => (k.block i (Nat.lt_of_lt_of_le hi h.size) hp).trans (h.block i hi hp)⟩
theorem Kept.setCell {p : Nat → Prop} {a w : World} (h : Kept p a w) {x : Addr} (hx : p x.block) (u : Value) : Kept p a (w.setCell x u) :=
  h.trans ⟨rfl, rfl, rfl, by simp [World.setCell], fun k _ hk => Below.heap_setCell _ _ _ _ (fun e => hk (e ▸ hx))⟩
theorem Kept.alloc {p : Nat → Prop} {a w : World} (h : Kept p a w) (o : Obj) : Kept p a (w.alloc o) :=
  h.trans ⟨rfl, rfl, rfl, by simp, fun _ hk _ => Below.heap_alloc _ _ _ hk⟩
theorem Kept.drew {p : Nat → Prop} {a w : World} (h : Kept p a w) : Kept p a w.drew := ⟨h.os, h.tape, h.output, h.size, h.block⟩
theorem Kept.drewN {p : Nat → Prop} {a w : World} (h : Kept p a w) (q : Nat) : Kept p a (w.drewN q) := ⟨h.os, h.tape, h.output, h.size, h.block⟩
theorem Kept.grown {p : Nat → Prop} {a w w' : World} {row : Option Nat} (h : Kept p a w) (hg : w.grownBy w' row) (hr : ∀ k, row = some k → p k) : Kept p a w' :=
  h.trans ⟨hg.os, hg.tape, hg.output, hg.size, fun k hk hp => hg.block k hk (fun e => hp (hr k e.symm))⟩
theorem Kept.mono {p q : Nat → Prop} {a w : World} (h : Kept p a w) (hpq : ∀ k, p k → q k) : Kept q a w := ⟨h.os, h.tape, h.output, h.size, fun k hk hq => h.block k hk (fun hp => hq (hpq k hp))⟩
theorem Kept.below {p : Nat → Prop} {a w : World} {B : Nat} (h : Kept p a w) (hB : B ≤ a.heap.size) (hp : ∀ k, p k → B ≤ k) : Below B a w :=
  ⟨h.os, h.tape, h.output, h.size, fun k hk => h.block k (by omega) (fun e => by have := hp k e; omega)⟩
theorem Kept.rowIs {p : Nat → Prop} {a w : World} (h : Kept p a w) {b : Nat} {t : TypeId} {n : Nat} {f : Nat → Value} (hr : a.rowIs b t n f) (hb : ¬ p b) : w.rowIs b t n f :=
  hr.of_block (h.block b hr.lt hb)
theorem Kept.owns {p : Nat → Prop} {a w : World} (h : Kept p a w) {B : Nat} {e : TypeId} {v : Value} {n : Nat} {xs : List Value} (ho : a.ownsRow B e 1 v n xs) (hb : ∀ k, v.ownBlock = some k → ¬ p k) : w.ownsRow B e 1 v n xs := by
  refine ⟨ho.1, ?_⟩
  rcases ho.2 with h2 | ⟨g, cap, cur, rfl, hB, hg, r⟩
  · exact Or.inl h2
  · exact Or.inr ⟨g, cap, cur, rfl, hB, (h.block g (Array.getElem?_eq_some_iff.1 hg).1 (hb g rfl)).trans hg, r⟩

theorem rowIs_put (g : Nat) (t : TypeId) (N : Nat) : ∀ (cs : List Value) (o : Nat) (w : World) (f : Nat → Value), w.rowIs g t N f →
    (w.setCells g o cs).rowIs g t N (fun i => if o ≤ i ∧ i < o + cs.length then cs.getD (i - o) undef else f i)
  | [], o, w, f, h => by
    simp only [World.setCells, List.length_nil]
    exact h.congr (fun i _ => by rw [if_neg (by omega)])
  | c :: cs, o, w, f, h => by
    simp only [World.setCells, List.length_cons]
    refine (rowIs_put g t N cs (o + 1) _ _ (h.set o c)).congr (fun i _ => ?_)
    by_cases e : i = o
    · subst e
      rw [if_neg (by omega), if_pos rfl, if_pos (by omega), Nat.sub_self]; rfl
    · by_cases e2 : o ≤ i ∧ i < o + (cs.length + 1)
      · rw [if_pos (by omega), if_pos e2, show i - o = (i - (o + 1)) + 1 by omega]; rfl
      · rw [if_neg (by omega), if_neg e2, if_neg e]

theorem kept_setCells (p : Nat → Prop) (g : Nat) (hg : p g) : ∀ (vs : List Value) (o : Nat) (a w : World), Kept p a w → Kept p a (w.setCells g o vs)
  | [], _, _, _, h => h
  | v :: vs, o, a, w, h => by
    simp only [World.setCells]
    exact kept_setCells p g hg vs (o + 1) a _ (h.setCell hg v)


/-- The number that t bytes from b on spell, the least first. -/
def le (m : Nat → Nat) (b : Nat) : Nat → Nat
  | 0 => 0
  | t + 1 => m b + 256 * le m (b + 1) t
/-- The word k. -/
def word (m : Nat → Nat) (k : Nat) : Nat := le m (8 * k) 8

theorem le_lt {m : Nat → Nat} (h : ∀ i, m i < 256) : ∀ (t b : Nat), le m b t < 256 ^ t
  | 0, _ => by simp [le]
  | t + 1, b => by
    have h1 := le_lt h t (b + 1)
    have h2 := h b
    rw [le, Nat.pow_succ]; omega
theorem le_succ (m : Nat → Nat) : ∀ (t b : Nat), le m b (t + 1) = le m b t + m (b + t) * 256 ^ t
  | 0, b => by simp [le]
  | t + 1, b => by
    rw [le, le_succ m t (b + 1), le, show b + 1 + t = b + (t + 1) by omega, Nat.pow_succ, Nat.mul_add, ← Nat.mul_assoc, Nat.mul_comm 256 (m (b + (t + 1))), Nat.mul_assoc, Nat.mul_comm 256 (256 ^ t)]
    omega
theorem le_zero {m : Nat → Nat} : ∀ (t b : Nat), le m b t = 0 → ∀ j, j < t → m (b + j) = 0
  | 0, _, _, j, hj => by omega
  | t + 1, b, h, j, hj => by
    rw [le] at h
    rcases j with _ | j
    · rw [Nat.add_zero]; omega
    · have := le_zero (m := m) t (b + 1) (by omega) j (by omega)
      rw [show b + (j + 1) = b + 1 + j by omega]; exact this
theorem zero_le' {m : Nat → Nat} : ∀ (t b : Nat), (∀ j, j < t → m (b + j) = 0) → le m b t = 0
  | 0, _, _ => rfl
  | t + 1, b, h => by
    have h0 := h 0 (by omega)
    rw [Nat.add_zero] at h0
    rw [le, h0, zero_le' t (b + 1) (fun j hj => by rw [show b + 1 + j = b + (j + 1) by omega]; exact h _ (by omega))]
theorem le_more {m : Nat → Nat} (b t : Nat) : ∀ d, (∀ j, t ≤ j → j < t + d → m (b + j) = 0) → le m b (t + d) = le m b t
  | 0, _ => rfl
  | d + 1, h => by
    rw [← Nat.add_assoc, le_succ, le_more b t d (fun j h1 h2 => h j h1 (by omega)), h (t + d) (by omega) (by omega)]; omega
theorem word_lt {m : Nat → Nat} (h : ∀ i, m i < 256) (k : Nat) : word m k < 18446744073709551616 := by
  have := le_lt h 8 (8 * k)
  exact this
theorem le8 (m : Nat → Nat) (b : Nat) : le m b 8 = m b + m (b + 1) * 256 + m (b + 2) * 65536 + m (b + 3) * 16777216 + m (b + 4) * 4294967296 + m (b + 5) * 1099511627776 + m (b + 6) * 281474976710656 + m (b + 7) * 72057594037927936 := by
  simp only [le, Nat.add_assoc, Nat.reduceAdd]; omega

/-- K words and no more: behind them all is zero, the last is not. -/
def Norm (m : Nat → Nat) (K : Nat) : Prop := (∀ u, 8 * K ≤ u → m u = 0) ∧ (K = 0 ∨ word m (K - 1) ≠ 0)
theorem Norm.not_lt {m : Nat → Nat} {K K' : Nat} (h : Norm m K) (h' : Norm m K') : ¬ K < K' := by
  intro hlt
  rcases h'.2 with e | e
  · omega
  · exact e (zero_le' 8 _ (fun j hj => h.1 _ (by omega)))
theorem Norm.unique {m : Nat → Nat} {K K' : Nat} (h : Norm m K) (h' : Norm m K') : K = K' := by
  have h1 := h.not_lt h'
  have h2 := h'.not_lt h
  omega

/-- A slice of words. -/
def Wd (w : World) (B : Nat) (v : Value) (m : Nat → Nat) (K : Nat) : Prop :=
  (K = 0 ∧ v = .slice none 0 0) ∨ ∃ g cap f, v = .slice (some ⟨g, 0, none⟩) K cap ∧ K ≤ cap ∧ cap ≤ 9223372036854775807 ∧ B ≤ g ∧ w.rowIs g 39 cap f ∧ ∀ k, k < K → f k = .int .u64 (word m k : Nat)
theorem Wd.kept {w w' : World} {B : Nat} {v : Value} {m : Nat → Nat} {K : Nat} {p : Nat → Prop} (h : Wd w B v m K) (hk : Kept p w w') (hp : ∀ k, v.ownBlock = some k → ¬ p k) : Wd w' B v m K := by
  rcases h with h | ⟨g, cap, f, rfl, h1, h2, h3, h4, h5⟩
  · exact Or.inl h
  · exact Or.inr ⟨g, cap, f, rfl, h1, h2, h3, hk.rowIs h4 (hp g rfl), h5⟩

theorem info39 : (Yba.prog.info? 39).map (fun i => (i.zero, i.size, i.bytes)) = some (some (.int .u64 0), 1, 8) := by kernel_rfl
theorem info5 : (Yba.prog.info? 5).map (fun i => (i.zero, i.size, i.bytes)) = some (some (.int .u8 0), 1, 1) := by kernel_rfl
end Go.Proofs.Ybulkdkma.N
