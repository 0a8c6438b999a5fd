/-
  Plain laws of the lists that the law of S5576A expects.
-/
import Derived.Test.YbulkdklmAdd
namespace Go.Proofs.Ybulkdklm.E
set_option linter.unusedVariables false

/-- The lengths that the law expects for the page that is put into. -/
def mid (N j : Nat) : List Nat := if N = 128 then (if j ≤ 64 then [65, 64] else [64, 65]) else [N + 1]
/-- The lengths that the law expects, m of them drawn. -/
def el (lf : Nat → Nat) (p N j : Nat) : Nat → List Nat
  | 0 => []
  | m + 1 => el lf p N j m ++ (if m = p then mid N j else [lf m])
/-- The spans that the law expects, m rounds done. -/
def ef (F : List Nat) (a s m : Nat) : List Nat := if m ≤ a then F.take m else ins (F.take m) a s

theorem el_lo (lf : Nat → Nat) (p N j : Nat) : ∀ m, m ≤ p → el lf p N j m = (List.range m).map lf
  | 0, _ => rfl
  | m + 1, h => by
    rw [el, el_lo lf p N j m (by omega), if_neg (by omega), List.range_succ, List.map_append]; rfl
theorem el_hi (lf : Nat → Nat) (p N j : Nat) : ∀ d, el lf p N j (p + 1 + d) = (List.range p).map lf ++ mid N j ++ (List.range' (p + 1) d).map lf
  | 0 => by
    rw [Nat.add_zero, el, el_lo lf p N j p (Nat.le_refl _), if_pos rfl]; simp
  | d + 1 => by
    rw [← Nat.add_assoc, el, el_hi lf p N j d, if_neg (by omega), List.range'_1_concat, List.map_append]; simp
theorem mid_len (N j : Nat) : 1 ≤ (mid N j).length ∧ (mid N j).length ≤ 2 := by unfold mid; split <;> (try split) <;> simp
theorem el_len (lf : Nat → Nat) (p N j : Nat) : ∀ m, (el lf p N j m).length ≤ m + 1 ∧ (m ≤ p → (el lf p N j m).length = m)
  | 0 => by simp [el]
  | m + 1 => by
    have h := el_len lf p N j m
    have hm := mid_len N j
    by_cases e : m = p
    · have := h.2 (by omega)
      rw [el, if_pos e, List.length_append]; omega
    · constructor
      · rw [el, if_neg e, List.length_append]; simp; omega
      · intro h'
        have := h.2 (by omega)
        rw [el, if_neg e, List.length_append]; simp; omega

theorem ef_lo {F : List Nat} {a s m : Nat} (h : m < a) (hm : m < F.length) : ef F a s (m + 1) = ef F a s m ++ [F.getD m 0] := by
  unfold ef
  rw [if_pos (by omega), if_pos (by omega), List.take_succ_eq_append_getElem hm, List.getD_eq_getElem?_getD, List.getElem?_eq_getElem hm]; rfl
theorem ef_at {F : List Nat} {a s : Nat} (h : a < F.length) : ef F a s (a + 1) = (ef F a s a ++ [s]) ++ [F.getD a 0] := by
  unfold ef ins
  rw [if_neg (by omega), if_pos (by omega), List.take_take, Nat.min_eq_left (by omega), List.take_succ_eq_append_getElem h, List.getD_eq_getElem?_getD, List.getElem?_eq_getElem h, List.drop_append_of_le_length (by simp; omega)]
  simp
theorem ef_end {F : List Nat} {a s : Nat} (h : a = F.length) : ef F a s (a + 1) = ef F a s a ++ [s] := by
  subst h
  unfold ef ins
  rw [if_neg (by omega), if_pos (by omega), List.take_take, Nat.min_eq_left (by omega), List.drop_eq_nil_of_le (by simp)]
theorem ef_hi {F : List Nat} {a s m : Nat} (h : a < m) (hm : m < F.length) : ef F a s (m + 1) = ef F a s m ++ [F.getD m 0] := by
  unfold ef ins
  rw [if_neg (by omega), if_neg (by omega), List.take_take, List.take_take, Nat.min_eq_left (by omega), Nat.min_eq_left (by omega), List.take_succ_eq_append_getElem hm, List.getD_eq_getElem?_getD, List.getElem?_eq_getElem hm, List.drop_append_of_le_length (by simp; omega)]
  simp
theorem ef_hi_end {F : List Nat} {a s m : Nat} (h : a < m) (hm : m = F.length) : ef F a s (m + 1) = ef F a s m := by
  unfold ef ins
  rw [if_neg (by omega), if_neg (by omega), List.take_of_length_le (l := F) (i := m + 1) (by omega), List.take_of_length_le (l := F) (i := m) (by omega)]
theorem ef_last {F : List Nat} {a s m : Nat} (h : a < m) (hm : m = F.length + 1) : ef F a s m = ins F a s := by
  unfold ef
  rw [if_neg (by omega), List.take_of_length_le (by omega)]
theorem ef_length (F : List Nat) (a s m : Nat) : (ef F a s m).length ≤ F.length + 1 := by
  unfold ef ins
  split
  · simp; omega
  · simp; omega

theorem ins_flat (A : List Nat) (ps C : List Nat) (j s : Nat) (h : j ≤ ps.length) : ins (A ++ ps ++ C) (j + A.length) s = A ++ ins ps j s ++ C := by
  unfold ins
  rw [List.append_assoc, List.take_append, List.drop_append, List.take_append, List.drop_append]
  rw [List.take_of_length_le (by omega), List.drop_eq_nil_of_le (show A.length ≤ j + A.length by omega), show j + A.length - A.length = j by omega]
  simp [show j - ps.length = 0 by omega]

theorem flat_get : ∀ (Q : List (List Nat)) (k j : Nat), k < Q.length → j < (Q.getD k []).length → Q.flatten[((Q.take k).map List.length).sum + j]? = (Q.getD k [])[j]?
  | [], k, _, h, _ => by simp at h
  | q :: Q, 0, j, _, hj => by
    simp at hj
    simp [List.getElem?_append_left hj]
  | q :: Q, k + 1, j, hk, hj => by
    have := flat_get Q k j (by simpa using hk) (by simpa using hj)
    rw [List.take_succ_cons, List.map_cons, List.sum_cons, List.flatten_cons, List.getElem?_append_right (by omega), show q.length + ((Q.take k).map List.length).sum + j - q.length = ((Q.take k).map List.length).sum + j by omega, this]
    simp

theorem put_flat (Q M : List (List Nat)) (p j s : Nat) (hp : p < Q.length) (hj : j ≤ (Q.getD p []).length) (hM : M.flatten = ins (Q.getD p []) j s) :
    (Q.take p ++ M ++ Q.drop (p + 1)).flatten = ins Q.flatten (j + ((Q.take p).map List.length).sum) s := by
  have e : Q = Q.take p ++ [Q.getD p []] ++ Q.drop (p + 1) := by
    conv => lhs; rw [← List.take_append_drop p Q, List.drop_eq_getElem_cons hp]
    rw [List.getD_eq_getElem?_getD, List.getElem?_eq_getElem hp]; simp
  have e2 : Q.flatten = (Q.take p).flatten ++ Q.getD p [] ++ (Q.drop (p + 1)).flatten := by
    conv => lhs; rw [e]
    simp
  rw [e2, ← List.length_flatten, ins_flat _ _ _ _ _ hj, List.flatten_append, List.flatten_append, hM]

theorem put_lens (Q M : List (List Nat)) (lf : Nat → Nat) (p N j : Nat) (hp : p < Q.length) (hQ : Q.map List.length = (List.range Q.length).map lf) (hM : M.map List.length = mid N j) :
    (Q.take p ++ M ++ Q.drop (p + 1)).map List.length = el lf p N j Q.length := by
  obtain ⟨d, hd⟩ : ∃ d, Q.length = p + 1 + d := ⟨Q.length - (p + 1), by omega⟩
  rw [hd, el_hi, List.map_append, List.map_append, hM, List.map_take, List.map_drop, hQ, hd, ← List.map_take, ← List.map_drop, List.take_range, Nat.min_eq_left (by omega), List.range_eq_range' (n := p + 1 + d), List.drop_range']
  simp [show p + 1 + d - (p + 1) = d by omega]
theorem sum_lens (Q : List (List Nat)) (lf : Nat → Nat) (m : Nat) (hm : m ≤ Q.length) (hQ : Q.map List.length = (List.range Q.length).map lf) : ((Q.take m).map List.length).sum = ((List.range m).map lf).sum := by
  rw [List.map_take, hQ, ← List.map_take, List.take_range, Nat.min_eq_left hm]
end Go.Proofs.Ybulkdklm.E
