/-
  put at any page, as one law.
-/
import Derived.Test.YbulkdklmFull
import Derived.Test.YbulkdklmEmpty
import Derived.Test.YbulkdklmPure
namespace Go.Proofs.Ybulkdklm.E
open Go.RowKit Go.Deep
set_option linter.unusedVariables false

/-- What stands behind put. -/
structure Aft (w' : World) (D B : Nat) (v' : Value) (L' : List (Value × List Nat)) (E X : List Nat) : Prop where
  idx : Idx w' D B v' (L'.map (·.1))
  page : ∀ x ∈ L', Pg w' B x.1 x.2
  lens : (L'.map (·.2)).map List.length = E
  flat : (L'.map (·.2)).flatten = X

theorem Pg.notMine {w : World} {B D k : Nat} {h : Value} {ps : List Nat} (hp : Pg w B h ps) (hB : D < B) (hk : h.ownBlock = some k) : ¬ Mine w D k := by
  obtain ⟨hb, _, m, f, hr⟩ := own_row hp.1 hk
  rintro (e | ⟨_, n', f', hr'⟩)
  · omega
  · have := rowIs_type hr hr'
    simp at this

theorem after_put {w w' : World} {D B p N j s : Nat} {v v' : Value} {L HM : List (Value × List Nat)} {lf : Nat → Nat} {hs' : List Value}
    (h : Idx w D B v (L.map (·.1))) (hpg : ∀ x ∈ L, Pg w B x.1 x.2) (hp : p < L.length) (hlf : L.map (fun x => x.2.length) = (List.range L.length).map lf) (hj : j ≤ ((L.map (·.2)).getD p []).length)
    (hI : Idx w' D B v' hs') (hhs : hs' = (L.map (·.1)).take p ++ HM.map (·.1) ++ (L.map (·.1)).drop (p + 1)) (hH : ∀ x ∈ HM, Pg w' B x.1 x.2) (hf : (HM.map (·.2)).flatten = ins ((L.map (·.2)).getD p []) j s) (hl : (HM.map (·.2)).map List.length = mid N j) (hk : Kept (Mine w D) w w') :
    ∃ v' L', Aft w' D B v' L' (el lf p N j L.length) (ins (L.map (·.2)).flatten (j + ((List.range p).map lf).sum) s) := by
  have hd := h.dlt
  have hlf' : (L.map (·.2)).map List.length = (List.range (L.map (·.2)).length).map lf := by rw [List.map_map, List.length_map]; exact hlf
  refine ⟨v', L.take p ++ HM ++ L.drop (p + 1), ⟨?_, fun x hx => ?_, ?_, ?_⟩⟩
  · rw [List.map_append, List.map_append, List.map_take, List.map_drop, ← hhs]; exact hI
  · rcases List.mem_append.1 hx with hx | hx
    · rcases List.mem_append.1 hx with hx | hx
      · have := hpg x (List.mem_of_mem_take hx)
        exact this.kept hk (fun k e => this.notMine hd e)
      · exact hH x hx
    · have := hpg x (List.mem_of_mem_drop hx)
      exact this.kept hk (fun k e => this.notMine hd e)
  · have := put_lens (L.map (·.2)) (HM.map (·.2)) lf p N j (by rw [List.length_map]; exact hp) hlf' hl
    rw [List.length_map] at this
    rw [← this]; simp [List.map_take, List.map_drop]
  · rw [← sum_lens (L.map (·.2)) lf p (by rw [List.length_map]; omega) hlf', ← put_flat (L.map (·.2)) (HM.map (·.2)) p j s (by rw [List.length_map]; exact hp) hj hf, List.map_append, List.map_append, List.map_take, List.map_drop]

theorem put_any (w : World) (D B p N j s : Nat) (I : Int) (v : Value) (L : List (Value × List Nat)) (lf : Nat → Nat) (h : Idx w D B v (L.map (·.1)))
    (hpg : ∀ x ∈ L, ∃ g, x.1 = .slice (some ⟨g, 0, none⟩) x.2.length x.2.length ∧ Pg w B x.1 x.2) (hp : p < L.length) (hm : L.length ≤ 1000) (hlf : L.map (fun x => x.2.length) = (List.range L.length).map lf) (hN : N = lf p) (hN2 : N ≤ 128) (hj : j ≤ N) (hI : I + 1 = j) :
    Calls Yba.prog 4 #[.pointer (some ⟨D, 0, none⟩), .int .i64 p, .int .i64 I, ptr s] w fun e w' => e = .returned (.tuple #[]) ∧
      (∃ v' L', Aft w' D B v' L' (el lf p N j L.length) (ins (L.map (·.2)).flatten (j + ((List.range p).map lf).sum) s)) ∧ Kept (Mine w D) w w' := by
  have hpg' : ∀ x ∈ L, Pg w B x.1 x.2 := fun x hx => (hpg x hx).elim fun _ e => e.2
  obtain ⟨g0, cap0, hv, _⟩ := h.shape (by rw [List.length_map]; omega)
  subst hv
  obtain ⟨x, hx⟩ : ∃ x, L[p]? = some x := ⟨_, List.getElem?_eq_getElem hp⟩
  have hxm : x ∈ L := List.mem_of_getElem? hx
  have hlen : x.2.length = N := by
    have := congrArg (fun l => l[p]?) hlf
    simp only [List.getElem?_map, hx, List.getElem?_range hp] at this
    rw [hN]; simpa using this
  obtain ⟨g, hg, hP⟩ := hpg x hxm
  rw [hlen] at hg
  have hq : (L.map (·.2)).getD p [] = x.2 := by rw [List.getD_eq_getElem?_getD, List.getElem?_map, hx]; rfl
  have hgp : (L.map (·.1)).getD p undef = .slice (some ⟨g, 0, none⟩) N N := by rw [List.getD_eq_getElem?_getD, List.getElem?_map, hx, ← hg]; rfl
  have hone : ∀ u, u ∈ L.map (·.1) → u.oneCell' = true := by
    intro u hu
    obtain ⟨y, hy, rfl⟩ := List.mem_map.1 hu
    obtain ⟨g', e, _⟩ := hpg y hy
    rw [e]; rfl
  have hps : Pg w B (.slice (some ⟨g, 0, none⟩) N N) x.2 := hg ▸ hP
  have hjq : j ≤ ((L.map (·.2)).getD p []).length := by rw [hq]; omega
  have hpl : p < (L.map (·.1)).length := by rw [List.length_map]; exact hp
  have hml : (L.map (·.1)).length ≤ 1000 := by rw [List.length_map]; exact hm
  by_cases h128 : N = 128
  · rw [h128] at hgp hps
    by_cases h64 : j ≤ 64
    · refine (put_lo w D B p g0 cap0 g 128 j s I _ x.2 h hpl hgp hps (by omega) hml hone h64 hI).mono ?_
      rintro e w' ⟨rfl, v', h1, h2, hI', hp1, hp2, hk⟩
      refine ⟨rfl, after_put (N := N) (HM := [(h1, ins (x.2.take 64) j s), (h2, x.2.drop 64)]) h hpg' hp hlf hjq hI' (by simp) ?_ ?_ ?_ hk, hk⟩
      · intro y hy
        rcases List.mem_cons.1 hy with rfl | hy
        · exact hp1
        · obtain rfl : y = _ := by simpa using hy
          exact hp2
      · rw [hq]
        show ins (x.2.take 64) j s ++ (x.2.drop 64 ++ []) = _
        have := ins_flat [] (x.2.take 64) (x.2.drop 64) j s (by simp; omega)
        simp only [List.nil_append, List.length_nil, Nat.add_zero, List.take_append_drop] at this
        rw [this, List.append_nil]
      · show [(ins (x.2.take 64) j s).length, (x.2.drop 64).length] = _
        rw [ins_length, mid, if_pos h128, if_pos h64]
        simp [hlen, h128]
    · refine (put_hi w D B p g0 cap0 g 128 j s I _ x.2 h hpl hgp hps (by omega) hml hone (by omega) hI).mono ?_
      rintro e w' ⟨rfl, v', h1, h2, hI', hp1, hp2, hk⟩
      refine ⟨rfl, after_put (N := N) (HM := [(h1, x.2.take 64), (h2, ins (x.2.drop 64) (j - 64) s)]) h hpg' hp hlf hjq hI' (by simp) ?_ ?_ ?_ hk, hk⟩
      · intro y hy
        rcases List.mem_cons.1 hy with rfl | hy
        · exact hp1
        · obtain rfl : y = _ := by simpa using hy
          exact hp2
      · rw [hq]
        show x.2.take 64 ++ (ins (x.2.drop 64) (j - 64) s ++ []) = _
        have := ins_flat (x.2.take 64) (x.2.drop 64) [] (j - 64) s (by simp; omega)
        rw [List.append_nil, List.append_nil, List.take_append_drop, List.length_take, Nat.min_eq_left (by omega), show j - 64 + 64 = j by omega] at this
        rw [this, List.append_nil]
      · show [(x.2.take 64).length, (ins (x.2.drop 64) (j - 64) s).length] = _
        rw [ins_length, mid, if_pos h128, if_neg h64]
        simp [hlen, h128]
  · refine (put_room w D B p g0 cap0 g N j s I _ x.2 h hpl hgp hps hlen (by omega) hj hI hml).mono ?_
    rintro e w' ⟨rfl, v', u, hI', hp1, hk⟩
    refine ⟨rfl, after_put (N := N) (HM := [(u, ins x.2 j s)]) h hpg' hp hlf hjq hI' ?_ ?_ ?_ ?_ hk, hk⟩
    · rw [List.set_eq_take_append_cons_drop, if_pos hpl]; simp
    · intro y hy
      obtain rfl : y = _ := by simpa using hy
      exact hp1
    · rw [hq]; simp
    · show [(ins x.2 j s).length] = _
      rw [ins_length, mid, if_neg h128, hlen]
end Go.Proofs.Ybulkdklm.E
