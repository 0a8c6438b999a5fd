/-
  The law's walk.
-/
import Derived.Test.YbulkdklmExp
import Derived.Deep.AppendLies
import Derived.BigQuiet
import Derived.Deep.LoopGhost
import Derived.Deep.Light
import Derived.Deep.QuietTactic
namespace Go.Proofs.Ybulkdklm.E
open Go.RowKit Go.Deep
set_option linter.unusedVariables false

theorem info3 : (Yba.prog.info? 3).map (fun i => (i.zero, i.size, i.bytes)) = some (some (.int .i64 0), 1, 8) := by kernel_rfl

theorem own_form {w : World} {B n : Nat} {E : TypeId} {v : Value} {xs : List Value} (h : w.ownsRow B E 1 v n xs) : ∃ A c, v = .slice A n c := by
  rcases h.2 with ⟨e, h0⟩ | ⟨g, cap, cur, hv, _⟩
  · exact ⟨none, 0, by rw [e, h0]⟩
  · exact ⟨_, _, hv⟩

theorem sum_mono {f : Nat → Nat} : ∀ (d p : Nat), ((List.range p).map f).sum ≤ ((List.range (p + d)).map f).sum
  | 0, p => Nat.le_refl _
  | d + 1, p => by
    have := sum_mono (f := f) d p
    rw [← Nat.add_assoc, List.range_succ, List.map_append, List.sum_append]
    omega

/-- A page's length out of a byte. -/
def plen (z : Int) : Nat := if z < 128 then (128 - z).toNat else (z - 127).toNat

theorem plen_le {z : Int} (h0 : 0 ≤ z) (h1 : z ≤ 255) : plen z ≤ 128 := by unfold plen; split <;> omega
theorem plen_pos {z : Int} (h0 : 0 ≤ z) (h1 : z ≤ 255) : 1 ≤ plen z := by unfold plen; split <;> omega
theorem flat_len (L : List (Value × List Nat)) : (L.map (·.2)).flatten.length = (L.map fun x => x.2.length).sum := by
  rw [List.length_flatten, List.map_map]; rfl
theorem sum_le {f : Nat → Nat} : ∀ (k : Nat), (∀ i, i < k → f i ≤ 128) → ((List.range k).map f).sum ≤ 128 * k
  | 0, _ => by simp
  | k + 1, h => by
    rw [List.range_succ, List.map_append, List.sum_append]
    have h1 := sum_le k (fun i hi => h i (by omega))
    have h2 := h k (by omega)
    simp; omega

theorem num1 (n1 k p : Nat) (hp : n1 % k = p) : ((n1 : Int) % (k : Int)) = (p : Int) := by rw [← hp]; exact (Int.natCast_emod n1 k).symm
theorem num2 (n2 N r : Nat) (hr : n2 % (N + 1) = r) : ((n2 : Int) % ((N : Int) + 1)) = (r : Int) := by
  have h := Int.natCast_emod n2 (N + 1)
  rw [hr, Int.natCast_add] at h
  exact h.symm
theorem num3 (r N : Nat) (h : r ≤ N) (hN : 1 ≤ N ∧ N ≤ 128) : wrap64 (r : Int) = r := by unfold wrap64; omega
theorem num4 (r N j : Nat) (I : Int) (h : r ≤ N) (hN : 1 ≤ N ∧ N ≤ 128) (hj : j = N - r) (hI : I + 1 = j) : wrap64 ((N : Int) - 1 - r) = I ∧ wrap64 (I + 1) = (j : Int) := by unfold wrap64; omega

set_option maxHeartbeats 8000000 in
set_option maxRecDepth 100000 in
theorem law_walk (a0 : Option Addr) (len0 cap0 : Nat) (Z0 : Nat → Int) (a1 a2 : Int) (w : World) (h1 : 0 ≤ a1 ∧ a1 < 18446744073709551616) (h2 : 0 ≤ a2 ∧ a2 < 18446744073709551616)
    (h0 : ∀ k, k < len0 → ∃ a, a0 = some a ∧ w.cell? (a.add k) = some (.int .u8 (Z0 k)) ∧ 0 ≤ Z0 k ∧ Z0 k ≤ 255) :
    Calls Yba.prog 3 #[.slice a0 len0 cap0, .int .u64 a1, .int .u64 a2] w fun e w' => e = .returned (.bool true) ∧ Below w.heap.size w w' := by
  by_cases hbig : (256 : Int) < (len0 : Int)
  · clear h0 h1 h2
    go_enter Yba.func3, Yba.ntmps3
    go_wp2_with fail
    go_ret
    exact ⟨rfl, Below.refl _ _⟩
  obtain ⟨i0, hi, hz0, hz1, hz2⟩ := info_parts info29
  obtain ⟨i1, hi', hz0', hz1', hz2'⟩ := info_parts info27
  have hS0 := St.start w len0 (fun k => plen (Z0 k))
  have hmk := run_make_row' (P := Yba.prog) 28 3 (.int .i64 0) 8 Yba.underlying28 info3 rfl .i64 .i64 len0 (by omega) (by omega)
  have HS0 : Hid (St _ _ _ _ _ _ _ _ _) := hS0
  have H0 : Hid (∀ k, k < len0 → ∃ a, a0 = some a ∧ w.cell? (a.add k) = some (.int .u8 (Z0 k)) ∧ 0 ≤ Z0 k ∧ Z0 k ≤ 255) := h0
  clear hS0 h0
  go_enter Yba.func3, Yba.ntmps3
  go_wp2_with fail
  clear hmk
  go_loopg [8, 39] len0 (fun g f i wr => ∃ (k : Nat) (v : Value) (L : List (Value × List Nat)), k ≤ len0 ∧ g = len0 - k ∧ i = .int .i64 k ∧ L.map (fun x => x.2.length) = (List.range k).map (fun k => plen (Z0 k)) ∧ St w wr len0 k (fun k => plen (Z0 k)) v f L (L.map (·.2)).flatten)
  case atStart => exact ⟨0, _, [], Nat.zero_le _, rfl, rfl, rfl, HS0.out⟩
  case round =>
    obtain ⟨k, v, L, hk, rfl, rfl, hL, hS⟩ := hrel
    obtain ⟨wo, rfl⟩ : ∃ wo, wo = wr := ⟨_, rfl⟩
    clear HS0
    by_cases hlt : k < len0
    · have hltz : (k : Int) < (len0 : Int) := by omega
      obtain ⟨a, rfl, hca, hzl, hzh⟩ := H0.out k hlt
      have hcz : wo.cell? (a.add k) = some (.int .u8 (Z0 k)) := by rw [hS.base.cell (World.block_lt_of_cell? _ _ hca)]; exact hca
      obtain ⟨z, hz⟩ : ∃ z, z = Z0 k := ⟨_, rfl⟩
      rw [← hz] at hcz hzl hzh
      obtain ⟨m, hm⟩ : ∃ m, m = plen (Z0 k) := ⟨_, rfl⟩
      have hmz : m = if z < 128 then (128 - z).toNat else (z - 127).toNat := by rw [hm, hz]; rfl
      have HS : Hid (St w wo len0 k (fun k => plen (Z0 k)) v _ L (L.map (·.2)).flatten) := hS
      have HL : Hid (L.map (fun x => x.2.length) = (List.range k).map (fun k => plen (Z0 k))) := hL
      have HM : Hid (m = plen (Z0 k)) := hm
      have c1 : wo.cell? ⟨w.heap.size + 1, k, none⟩ = some (.int .i64 0) := by rw [hS.lens.cell hlt, if_neg (by omega)]
      have f1 : wo.frozen? ⟨w.heap.size + 1, k, none⟩ = false := hS.lens.frozen k
      clear hS hL hm hca hz
      go_upto_if 48 with fail
      go_cut [12] (fun s12 wc => s12 = .int .i64 m ∧ wo = wc)
      case first =>
        by_cases hz : z < 128
        · rw [if_pos hz] at hmz
          have HW : Hid (128 - z = (m : Int)) := by show 128 - z = (m : Int); omega
          clear hmz
          go_wp2_with fail
          go_meet
          exact ⟨by rw [HW.out], rfl⟩
        · rw [if_neg hz] at hmz
          have hw : IntKind.i64.wrap (z - 127) = (m : Int) := by rw [IntKind.wrap_i64]; omega
          have hz' : 128 ≤ z := by omega
          clear hmz hz
          go_wp2_with fail
          go_meet
          exact ⟨rfl, rfl⟩
      case rest =>
        obtain ⟨rfl, rfl⟩ := hcut
        have hm1 : 1 ≤ m ∧ m ≤ 128 := by split at hmz <;> omega
        clear hmz hcz hzl hzh
        have hmk := run_make_row' (P := Yba.prog) 27 29 (.pointer none) 8 Yba.underlying27 info29 rfl .i64 .i64 m (by omega) (by omega)
        have hS1 := HS.out.lay hlt
        rw [← HM.out] at hS1
        have hF := hS1.fill (m := m)
        rw [show (wo.setCell ⟨w.heap.size + 1, k, none⟩ (.int .i64 m)).heap.size = wo.heap.size by simp] at hF
        have HF : Hid (Fill _ _ _ _ _ _ _ _ _ _ _ _ _) := hF
        have hbnd : (L.map (·.2)).flatten.length ≤ 128 * k := by
          rw [flat_len, HL.out]
          exact sum_le k (fun i hi => by
            obtain ⟨_, _, _, h5, h6⟩ := H0.out i (by omega)
            exact plen_le h5 h6)
        clear hS1 hF
        go_wp2_with fail
        clear hmk c1 f1
        go_loopg [8, 14] m (fun g f i wi => ∃ (j : Nat) (qs : List Nat), j ≤ m ∧ g = m - j ∧ i = .int .i64 j ∧ Fill w wi len0 (k + 1) wo.heap.size m j (fun k => plen (Z0 k)) v f L (L.map (·.2)).flatten qs)
        case atStart => exact ⟨0, [], Nat.zero_le _, rfl, rfl, HF.out⟩
        case round =>
          obtain ⟨j, qs, hj, rfl, rfl, hFi⟩ := hrel
          obtain ⟨wi, rfl⟩ : ∃ wi, wi = wr := ⟨_, rfl⟩
          clear HF
          by_cases hjm : j < m
          · have hjz : (j : Int) < (m : Int) := by omega
            have c2 : wi.cell? ⟨wo.heap.size, j, none⟩ = some (.pointer none) := by rw [hFi.row.cell hjm, if_neg (by omega)]
            have f2 : wi.frozen? ⟨wo.heap.size, j, none⟩ = false := hFi.row.frozen j
            have hlt2 : wo.heap.size < wi.heap.size := hFi.row.lt
            obtain ⟨A, c, hvf⟩ := own_form hFi.st.flat
            obtain ⟨N, hN⟩ : ∃ N, N = ((L.map (·.2)).flatten ++ qs).length := ⟨_, rfl⟩
            rw [← hN] at hvf
            subst hvf
            have HN : Hid (N = ((L.map (·.2)).flatten ++ qs).length) := hN
            have HFi : Hid (Fill _ _ _ _ _ _ _ _ _ _ _ _ _) := hFi
            clear hFi hN
            obtain ⟨xs, hxs⟩ : ∃ xs, xs = ((L.map (·.2)).flatten ++ qs).map ptr := ⟨_, rfl⟩
            have HX : Hid (xs = ((L.map (·.2)).flatten ++ qs).map ptr) := hxs
            clear hxs
            have hNb : N ≤ 40000 := by
              have := HN.out
              rw [List.length_append, HFi.out.len] at this
              omega
            go_wp2_with (at_builtin; refine wpList_append_lies _ rfl (.tmp 73) (.tmp 75) 27 rfl (w.heap.size + 2) 29 i0 (.pointer none) 1 8 Yba.underlying27 hi hz0 hz1 hz2 rfl (by decide) _ N xs rfl ?c0 ⟨wi.heap.size + 1, 0, none⟩ 1 1 [ptr wi.heap.size] rfl rfl ?c1 ?c2 (by omega) ?c3 ?c4 ?c5 (wi.heap.size + 2) ?c6 ?_)
            case c0 =>
              have := (HFi.out.owns (.cells #[.int .i64 ((N : Int) + 1), .string { data := #[114] }, .int .i64 0, .string { data := #[] }, .slice none 0 0, .pointer none, .slice none 0 0, .pointer none] 38)).1
              rw [← HN.out, ← HX.out] at this
              exact this
            case c1 => exact (HFi.out.owns _).2.1
            case c2 => intro u hu; obtain rfl : u = _ := by simpa using hu
                       rfl
            case c3 => unfold maxLen; omega
            case c4 => omega
            case c5 => exact (HFi.out.owns _).2.2
            case c6 => simp
            intro g cap w1 hown hgrow hat hlt3
            have hF1 := HFi.out.next _ hjm (by rw [← HN.out, ← HX.out]; exact hown) hgrow hat
            rw [← HN.out] at hF1
            have HF1 : Hid (Fill _ _ _ _ _ _ _ _ _ _ _ _ _) := hF1
            clear hF1 hown hgrow hat c2 f2 HFi
            go_wp2_with fail
            go_roundg (m - (j + 1))
            case measure => go_light; omega
            case rel =>
              go_light
              exact ⟨j + 1, qs ++ [wi.heap.size], by omega, rfl, by simp, HF1.out⟩
          · obtain rfl : j = m := by omega
            have hLk : L.length = k := by
              have := congrArg List.length HL.out
              simpa using this
            have hbox := hFi.st.idx.box
            have d1 : wi.cell? ⟨w.heap.size, 0, none⟩ = some v := hbox.cell (by omega)
            have hDl : w.heap.size < wi.heap.size := hbox.lt
            obtain ⟨A, c, hv⟩ := own_form hFi.st.idx.own
            rw [List.length_map, hLk] at hv
            subst hv
            obtain ⟨xs, hxs⟩ : ∃ xs, xs = L.map (·.1) := ⟨_, rfl⟩
            have HX : Hid (xs = L.map (·.1)) := hxs
            have hAD : ∀ g, (Value.slice A k c).ownBlock = some g → w.heap.size + 2 ≤ g := fun g hg => (own_row hFi.st.idx.own hg).1
            have HA : Hid (∀ g, (Value.slice A k c).ownBlock = some g → w.heap.size + 2 ≤ g) := hAD
            have HFi : Hid (Fill _ _ _ _ _ _ _ _ _ _ _ _ _) := hFi
            clear hFi hbox hAD hxs
            go_wp2_with (at_builtin; refine wpList_append_lies _ rfl (.tmp 78) (.tmp 80) 24 rfl (w.heap.size + 2) 27 i1 (.slice none 0 0) 1 24 Yba.underlying24 hi' hz0' hz1' hz2' rfl (by decide) _ k xs rfl ?c0 ⟨wi.heap.size, 0, none⟩ 1 1 [.slice (some ⟨wo.heap.size, 0, none⟩) j j] rfl rfl ?c1 ?c2 (by omega) ?c3 ?c4 ?c5 (wi.heap.size + 1) ?c6 ?_)
            case c0 =>
              have := ((Kept.refl (fun _ => False) wi).alloc (.cells #[.slice (some ⟨wo.heap.size, 0, none⟩) j j] 27)).owns HFi.out.st.idx.own (fun _ _ x => x)
              rw [List.length_map, hLk, ← HX.out] at this
              exact this
            case c1 => exact World.news_of_block (w := wi.alloc (.cells #[.slice (some ⟨wo.heap.size, 0, none⟩) j j] 27)) (cs := #[.slice (some ⟨wo.heap.size, 0, none⟩) j j]) (t := 27) (fr := (0, 0)) (by show (wi.heap.push _)[wi.heap.size]? = _; simp)
            case c2 => intro u hu; obtain rfl : u = _ := by simpa using hu
                       rfl
            case c3 => unfold maxLen; omega
            case c4 => omega
            case c5 => have := HFi.out.st.idx.room; simp; omega
            case c6 => simp
            intro g cap w1 hown hgrow hat hlt3
            have hK1 : Kept (fun x => (Value.slice A k c).ownBlock = some x) wi w1 := ((Kept.refl _ wi).alloc _).grown hgrow (fun x e => e)
            have hbx : w1.rowIs w.heap.size 26 1 (fun _ => .slice A k c) := hK1.rowIs HFi.out.st.idx.box (fun e => by have := HA.out _ e; omega)
            have d2 : w1.cell? ⟨w.heap.size, 0, none⟩ = some (.slice A k c) := hbx.cell (by omega)
            have f2 : w1.frozen? ⟨w.heap.size, 0, none⟩ = false := hbx.frozen 0
            have hSn : St w (w1.setCell ⟨w.heap.size, 0, none⟩ (.slice (some ⟨g, 0, none⟩) (k + 1) cap)) len0 (k + 1) (fun k => plen (Z0 k)) (.slice (some ⟨g, 0, none⟩) (k + 1) cap) _ (L ++ [(.slice (some ⟨wo.heap.size, 0, none⟩) j j, qs)]) _ :=
              HFi.out.st.push (p := fun x => x = w.heap.size ∨ (Value.slice A k c).ownBlock = some x) (Kept.setCell (p := fun x => x = w.heap.size ∨ (Value.slice A k c).ownBlock = some x) (hK1.mono (fun x e => Or.inr e)) (x := ⟨w.heap.size, 0, none⟩) (Or.inl rfl) _) (fun x e => e)
                (HFi.out.row) HFi.out.len hm1.1 hm1.2 HFi.out.here HFi.out.far ((hbx.set 0 _).congr (fun i hi => by rw [if_pos (by omega)]))
                ((Kept.setCell (p := fun x => x = w.heap.size) (Kept.refl _ w1) (x := ⟨w.heap.size, 0, none⟩) rfl _).owns (by rw [hLk, ← HX.out]; exact hown) (fun x e => by
                  have := (own_row hown e).1; omega))
            have HSn : Hid (St _ _ _ _ _ _ _ _ _) := hSn
            have HQ : Hid (qs.length = j) := HFi.out.len
            clear hSn hbx hK1 hown hgrow hat d1 HFi HA
            go_wp2_with fail
            go_roundg (len0 - (k + 1))
            case measure => go_light; omega
            case rel =>
              go_light
              refine ⟨k + 1, .slice (some ⟨g, 0, none⟩) (k + 1) cap, L ++ [(.slice (some ⟨wo.heap.size, 0, none⟩) j j, qs)], by omega, rfl, by simp, ?_, ?_⟩
              rotate_left
              · have e : ((L ++ [(Value.slice (some ⟨wo.heap.size, 0, none⟩) j j, qs)]).map (·.2)).flatten = (L.map (·.2)).flatten ++ qs := by simp
                rw [e]
                exact HSn.out
              · rw [List.range_succ, List.map_append, List.map_append, HL.out]
                show _ ++ [qs.length] = _ ++ [plen (Z0 k)]
                rw [HQ.out, HM.out]
    · obtain rfl : k = len0 := by omega
      clear hlt hk
      by_cases hz : k = 0
      · subst hz
        obtain rfl : L = [] := by
          have := congrArg List.length hL
          simpa using this
        have hbx := hS.idx.box
        obtain ⟨A, c, hv⟩ := own_form hS.idx.own
        rw [List.length_map, List.length_nil] at hv
        subst hv
        have hbel := hS.base
        have HP : Hid (∀ (o : Obj) (p i : Int), Calls _ _ _ _ _) := fun o p i => put_empty2 (wo.alloc o) w.heap.size wo.heap.size p i A c (hbx.alloc o)
        have hD : w.heap.size < wo.heap.size := hbx.lt
        have hq := eql_same29
        have HB : Hid (Below w.heap.size w wo) := hbel
        clear hbx hL hS hbel
        go_wp2_with (go_at_call 4; refine (HP.out _ _ _).mono ?_; rintro e w1 ⟨g1, g2, rfl, e1, e2, e3, HK⟩)
        go_ret
        exact ⟨rfl, ((HB.out.alloc (Nat.le_of_lt hD) _).trans (HK.out.below (by simp; omega) (fun k e => by omega)))⟩
      · obtain ⟨n1, rfl⟩ : ∃ n1 : Nat, a1 = n1 := Int.eq_ofNat_of_zero_le h1.1
        obtain ⟨n2, rfl⟩ : ∃ n2 : Nat, a2 = n2 := Int.eq_ofNat_of_zero_le h2.1
        obtain ⟨p, hp⟩ : ∃ p, n1 % k = p := ⟨_, rfl⟩
        have hpk : p < k := by rw [← hp]; exact Nat.mod_lt _ (by omega)
        obtain ⟨N, hN⟩ : ∃ N, N = plen (Z0 p) := ⟨_, rfl⟩
        have hN1 : 1 ≤ N ∧ N ≤ 128 := by
          obtain ⟨_, _, _, h5, h6⟩ := H0.out p hpk
          rw [hN]; exact ⟨plen_pos h5 h6, plen_le h5 h6⟩
        obtain ⟨r, hr⟩ : ∃ r, n2 % (N + 1) = r := ⟨_, rfl⟩
        have hrN : r ≤ N := by
          have := Nat.mod_lt n2 (show 0 < N + 1 by omega)
          omega
        obtain ⟨j, hj⟩ : ∃ j, j = N - r := ⟨_, rfl⟩
        obtain ⟨I, hI⟩ : ∃ I : Int, I + 1 = j := ⟨(j : Int) - 1, by omega⟩
        have hjN : j ≤ N := by omega
        have HJ : Hid (j ≤ N ∧ I + 1 = j) := ⟨hjN, hI⟩
        have e1 : ((n1 : Int) % (k : Int)) = (p : Int) := num1 n1 k p hp
        have e2 : ((n2 : Int) % ((N : Int) + 1)) = (r : Int) := num2 n2 N r hr
        have e3 : wrap64 (r : Int) = r := num3 r N hrN hN1
        have e4 : wrap64 ((N : Int) - 1 - r) = I := (num4 r N j I hrN hN1 hj hI).1
        have e5 : wrap64 (I + 1) = (j : Int) := (num4 r N j I hrN hN1 hj hI).2
        have cP : wo.cell? ⟨w.heap.size + 1, p, none⟩ = some (.int .i64 N) := by rw [hS.lens.cell hpk, if_pos hpk, hN]
        have hGl : w.heap.size + 1 < wo.heap.size := hS.lens.lt
        obtain ⟨A, c, hvf⟩ := own_form hS.flat
        obtain ⟨F, hF⟩ : ∃ F, F = (L.map (·.2)).flatten := ⟨_, rfl⟩
        rw [← hF] at hS hvf
        obtain ⟨fl, hfl⟩ : ∃ fl, fl = F.length := ⟨_, rfl⟩
        rw [← hfl] at hvf
        subst hvf
        have HS : Hid (St w wo k k (fun k => plen (Z0 k)) v _ L F) := hS
        have HL : Hid (L.map (fun x => x.2.length) = (List.range k).map (fun k => plen (Z0 k))) := hL
        have HN : Hid (N = plen (Z0 p)) := hN
        have HF : Hid (F = (L.map (·.2)).flatten ∧ fl = F.length) := ⟨hF, hfl⟩
        have HE : Hid (((n1 : Int) % (k : Int)) = (p : Int) ∧ ((n2 : Int) % ((N : Int) + 1)) = (r : Int) ∧ wrap64 (r : Int) = r ∧ wrap64 ((N : Int) - 1 - r) = I ∧ wrap64 (I + 1) = (j : Int)) := ⟨e1, e2, e3, e4, e5⟩
        clear hS hL hN hF hfl hj hI e1 e2 e3 e4 e5
        go_wp2_with fail
        clear cP hp hr
        rw [show ((k : Int) == 0) = false by simp [hz], HE.out.1, HE.out.2.1, HE.out.2.2.1, HE.out.2.2.2.1, HE.out.2.2.2.2]
        clear HE
        go_loopg [20, 21] p (fun g at' i wr => ∃ kk : Nat, kk ≤ p ∧ g = p - kk ∧ i = .int .i64 kk ∧ at' = .int .i64 ((j + ((List.range kk).map (fun k => plen (Z0 k))).sum : Nat) : Int) ∧ St w wr k k (fun k => plen (Z0 k)) v (.slice A fl c) L F)
        case atStart =>
          refine ⟨0, Nat.zero_le _, rfl, rfl, by simp, ?_⟩
          have hK : ∀ o, Kept (fun _ => False) wo (wo.alloc o) := fun o => (Kept.refl _ wo).alloc o
          exact HS.out.step (hK _) (fun _ e => False.elim e) ((hK _).owns HS.out.flat (fun _ _ e => e)) (Or.inl rfl)
        case round =>
          obtain ⟨kk, hkk, rfl, rfl, rfl, hS⟩ := hrel
          obtain ⟨w3, rfl⟩ : ∃ w3, w3 = wr := ⟨_, rfl⟩
          clear HS
          have hTb : j + ((List.range kk).map (fun k => plen (Z0 k))).sum ≤ 40000 := by
            have := sum_le (f := fun k => plen (Z0 k)) kk (fun i hi => by
              obtain ⟨_, _, _, h5, h6⟩ := H0.out i (by omega)
              exact plen_le h5 h6)
            have := HJ.out.1
            omega
          obtain ⟨T, hT⟩ : ∃ T, T = j + ((List.range kk).map (fun k => plen (Z0 k))).sum := ⟨_, rfl⟩
          rw [← hT] at hTb ⊢
          have HT : Hid (T = j + ((List.range kk).map (fun k => plen (Z0 k))).sum) := hT
          clear hT
          by_cases hlt : kk < p
          · have hltz : (kk : Int) < (p : Int) := by omega
            obtain ⟨q, hq⟩ : ∃ q, q = plen (Z0 kk) := ⟨_, rfl⟩
            have cK : w3.cell? ⟨w.heap.size + 1, kk, none⟩ = some (.int .i64 q) := by rw [hS.lens.cell (by omega), if_pos (by omega), hq]
            have hqb : q ≤ 128 := by
              obtain ⟨_, _, _, h5, h6⟩ := H0.out kk (by omega)
              rw [hq]; exact plen_le h5 h6
            have HQ : Hid (q = plen (Z0 kk)) := hq
            have HS : Hid (St w w3 k k (fun k => plen (Z0 k)) v _ L F) := hS
            clear hS hq
            go_wp2_with fail
            go_roundg (p - (kk + 1))
            case measure => go_light; omega
            case rel =>
              go_light
              refine ⟨kk + 1, by omega, rfl, by simp, ?_, HS.out⟩
              rw [List.range_succ, List.map_append, List.sum_append, ← Nat.add_assoc, ← HT.out]
              simp [← HQ.out]
          · obtain rfl : kk = p := by omega
            clear hlt hkk
            have hTf : T ≤ fl := by
              rw [HF.out.2, HF.out.1, flat_len, HL.out, HT.out]
              have h1 := sum_mono (f := fun k => plen (Z0 k)) (k - (kk + 1)) (kk + 1)
              rw [List.range_succ, List.map_append, List.sum_append, show kk + 1 + (k - (kk + 1)) = k by omega] at h1
              have h2 := HN.out
              have h3 := HJ.out.1
              simp at h1; omega
            have hEx := Ex.start hS
            have HEx : Hid (Ex w w3 k (fun k => plen (Z0 k)) v (.slice A fl c) L F (.slice none 0 0) []) := hEx
            clear hS hEx
            obtain ⟨i3, hi3, hz30, hz31, hz32⟩ := info_parts info3
            obtain ⟨hjN', hI'⟩ := HJ.out
            have hIb : -1 ≤ I ∧ I ≤ 127 := by omega
            go_wp2_with fail
            go_loopg [22, 23] k (fun g e i wr => ∃ m : Nat, m ≤ k ∧ g = k - m ∧ i = .int .i64 m ∧ Ex w wr k (fun k => plen (Z0 k)) v (.slice A fl c) L F e (el (fun k => plen (Z0 k)) kk N j m))
            case atStart => exact ⟨0, Nat.zero_le _, rfl, rfl, HEx.out⟩
            case round =>
              obtain ⟨m, hm, rfl, rfl, hE⟩ := hrel
              obtain ⟨w4, rfl⟩ : ∃ w4, w4 = wr := ⟨_, rfl⟩
              clear HEx
              obtain ⟨E, hEe⟩ : ∃ E, E = el (fun k => plen (Z0 k)) kk N j m := ⟨_, rfl⟩
              rw [← hEe] at hE
              obtain ⟨Ae, ce, he⟩ := own_form hE.own
              obtain ⟨ne, hne⟩ : ∃ ne, ne = E.length := ⟨_, rfl⟩
              rw [← hne] at he
              subst he
              have hneb : ne ≤ 300 := by
                have := (el_len (fun k => plen (Z0 k)) kk N j m).1
                rw [hne, hEe]; omega
              obtain ⟨xs, hxs⟩ : ∃ xs, xs = E.map num := ⟨_, rfl⟩
              have HEe : Hid (E = el (fun k => plen (Z0 k)) kk N j m) := hEe
              have HNe : Hid (ne = E.length) := hne
              have HX : Hid (xs = E.map num) := hxs
              have HE : Hid (Ex w w4 k (fun k => plen (Z0 k)) v (.slice A fl c) L F (.slice Ae ne ce) E) := hE
              have hGl4 : w.heap.size + 1 < w4.heap.size := hE.st.lens.lt
              by_cases hlt : m < k
              · have hltz : (m : Int) < (k : Int) := by omega
                by_cases hmp : m = kk
                · subst hmp
                  clear hE hEe hne hxs
                  by_cases h128 : N = 128
                  · have hNz : ((N : Int) == 128) = true := by rw [h128]; rfl
                    have HNN : Hid (N = 128) := h128
                    by_cases h64 : j ≤ 64
                    · have h64z : I < 64 := by omega
                      have hmid : mid N j = [65, 64] := by rw [mid, if_pos h128, if_pos h64]
                      have HM : Hid (mid N j = [65, 64]) := hmid
                      clear hmid h128
                      go_wp2_with (at_builtin; refine wpList_append_lies _ rfl (.tmp 178) (.tmp 181) 28 rfl (w.heap.size + 2) 3 i3 (.int .i64 0) 1 8 Yba.underlying28 hi3 hz30 hz31 hz32 rfl (by decide) _ ne xs rfl ?c0 ⟨w4.heap.size, 0, none⟩ 2 2 (([65, 64] : List Nat).map num) rfl rfl ?c1 ?c2 (by omega) ?c3 ?c4 ?c5 (w4.heap.size + 1) ?c6 ?_)
                      case c0 =>
                        have := (HE.out.alloc (.cells #[num 65, num 64] 3)).own
                        rw [← HNe.out, ← HX.out] at this
                        exact this
                      case c1 => exact World.news_of_block (w := w4.alloc (.cells #[num 65, num 64] 3)) (cs := #[num 65, num 64]) (t := 3) (fr := (0, 0)) (by show (w4.heap.push _)[w4.heap.size]? = _; simp)
                      case c2 => intro u hu; obtain ⟨b, _, rfl⟩ := List.mem_map.1 hu
                                 rfl
                      case c3 => unfold maxLen; omega
                      case c4 => omega
                      case c5 => have := HE.out.st.idx.room; simp; omega
                      case c6 => simp
                      intro g cap w5 hown hgrow hat hlt5
                      have hE1 := HE.out.next (A := [65, 64]) _ (by rw [List.length_append, ← HNe.out]) (by rw [← HX.out]; exact hown) hgrow
                      have HE1 : Hid (Ex _ _ _ _ _ _ _ _ _ _) := hE1
                      clear hE1 hown hgrow hat HE
                      go_wp2_with fail
                      go_roundg (k - (m + 1))
                      case measure => go_light; omega
                      case rel =>
                        go_light
                        refine ⟨m + 1, by omega, rfl, by simp, ?_⟩
                        rw [el, ← HEe.out, if_pos rfl, HM.out]
                        exact HE1.out
                    · have h64z : 64 ≤ I := by omega
                      have hmid : mid N j = [64, 65] := by rw [mid, if_pos h128, if_neg h64]
                      have HM : Hid (mid N j = [64, 65]) := hmid
                      clear hmid h128
                      go_wp2_with (at_builtin; refine wpList_append_lies _ rfl (.tmp 178) (.tmp 181) 28 rfl (w.heap.size + 2) 3 i3 (.int .i64 0) 1 8 Yba.underlying28 hi3 hz30 hz31 hz32 rfl (by decide) _ ne xs rfl ?c0 ⟨w4.heap.size, 0, none⟩ 2 2 (([64, 65] : List Nat).map num) rfl rfl ?c1 ?c2 (by omega) ?c3 ?c4 ?c5 (w4.heap.size + 1) ?c6 ?_)
                      case c0 =>
                        have := (HE.out.alloc (.cells #[num 64, num 65] 3)).own
                        rw [← HNe.out, ← HX.out] at this
                        exact this
                      case c1 => exact World.news_of_block (w := w4.alloc (.cells #[num 64, num 65] 3)) (cs := #[num 64, num 65]) (t := 3) (fr := (0, 0)) (by show (w4.heap.push _)[w4.heap.size]? = _; simp)
                      case c2 => intro u hu; obtain ⟨b, _, rfl⟩ := List.mem_map.1 hu
                                 rfl
                      case c3 => unfold maxLen; omega
                      case c4 => omega
                      case c5 => have := HE.out.st.idx.room; simp; omega
                      case c6 => simp
                      intro g cap w5 hown hgrow hat hlt5
                      have hE1 := HE.out.next (A := [64, 65]) _ (by rw [List.length_append, ← HNe.out]) (by rw [← HX.out]; exact hown) hgrow
                      have HE1 : Hid (Ex _ _ _ _ _ _ _ _ _ _) := hE1
                      clear hE1 hown hgrow hat HE
                      go_wp2_with fail
                      go_roundg (k - (m + 1))
                      case measure => go_light; omega
                      case rel =>
                        go_light
                        refine ⟨m + 1, by omega, rfl, by simp, ?_⟩
                        rw [el, ← HEe.out, if_pos rfl, HM.out]
                        exact HE1.out
                  · have hNz : ¬ (N : Int) = 128 := by omega
                    have hmid : mid N j = [N + 1] := by rw [mid, if_neg h128]
                    have HM : Hid (mid N j = [N + 1]) := hmid
                    clear hmid
                    go_wp2_with (at_builtin; refine wpList_append_lies _ rfl (.tmp 183) (.tmp 186) 28 rfl (w.heap.size + 2) 3 i3 (.int .i64 0) 1 8 Yba.underlying28 hi3 hz30 hz31 hz32 rfl (by decide) _ ne xs rfl ?c0 ⟨w4.heap.size, 0, none⟩ 1 1 (([N + 1] : List Nat).map num) rfl rfl ?c1 ?c2 (by omega) ?c3 ?c4 ?c5 (w4.heap.size + 1) ?c6 ?_)
                    case c0 =>
                      have := (HE.out.alloc (.cells #[.int .i64 ((N : Int) + 1)] 3)).own
                      rw [← HNe.out, ← HX.out] at this
                      exact this
                    case c1 => exact World.news_of_block (w := w4.alloc (.cells #[.int .i64 ((N : Int) + 1)] 3)) (cs := #[.int .i64 ((N : Int) + 1)]) (t := 3) (fr := (0, 0)) (by show (w4.heap.push _)[w4.heap.size]? = _; simp)
                    case c2 => intro u hu; obtain ⟨b, _, rfl⟩ := List.mem_map.1 hu
                               rfl
                    case c3 => unfold maxLen; omega
                    case c4 => omega
                    case c5 => have := HE.out.st.idx.room; simp; omega
                    case c6 => simp
                    intro g cap w5 hown hgrow hat hlt5
                    have hE1 := HE.out.next (A := [N + 1]) _ (by rw [List.length_append, ← HNe.out]) (by rw [← HX.out]; exact hown) hgrow
                    have HE1 : Hid (Ex _ _ _ _ _ _ _ _ _ _) := hE1
                    clear hE1 hown hgrow hat HE
                    go_wp2_with fail
                    go_roundg (k - (m + 1))
                    case measure => go_light; omega
                    case rel =>
                      go_light
                      refine ⟨m + 1, by omega, rfl, by simp, ?_⟩
                      rw [el, ← HEe.out, if_pos rfl, HM.out]
                      exact HE1.out
                · obtain ⟨q, hq⟩ : ∃ q, q = plen (Z0 m) := ⟨_, rfl⟩
                  have cK : w4.cell? ⟨w.heap.size + 1, m, none⟩ = some (.int .i64 q) := by rw [hE.st.lens.cell (by omega), if_pos (by omega), hq]
                  have HQ : Hid (q = plen (Z0 m)) := hq
                  have hmpz : (m : Int) ≠ (kk : Int) := by omega
                  clear hE hEe hne hxs hq
                  go_wp2_with (at_builtin; refine wpList_append_lies _ rfl (.tmp 162) (.tmp 167) 28 rfl (w.heap.size + 2) 3 i3 (.int .i64 0) 1 8 Yba.underlying28 hi3 hz30 hz31 hz32 rfl (by decide) _ ne xs rfl ?c0 ⟨w4.heap.size, 0, none⟩ 1 1 (([q] : List Nat).map num) rfl rfl ?c1 ?c2 (by omega) ?c3 ?c4 ?c5 (w4.heap.size + 1) ?c6 ?_)
                  case c0 =>
                    have := (HE.out.alloc (.cells #[num q] 3)).own
                    rw [← HNe.out, ← HX.out] at this
                    exact this
                  case c1 => exact World.news_of_block (w := w4.alloc (.cells #[num q] 3)) (cs := #[num q]) (t := 3) (fr := (0, 0)) (by show (w4.heap.push _)[w4.heap.size]? = _; simp)
                  case c2 => intro u hu; obtain ⟨b, _, rfl⟩ := List.mem_map.1 hu
                             rfl
                  case c3 => unfold maxLen; omega
                  case c4 => omega
                  case c5 => have := HE.out.st.idx.room; simp; omega
                  case c6 => simp
                  intro g cap w5 hown hgrow hat hlt5
                  have hE1 := HE.out.next (A := [q]) _ (by rw [List.length_append, ← HNe.out]) (by rw [← HX.out]; exact hown) hgrow
                  have HE1 : Hid (Ex _ _ _ _ _ _ _ _ _ _) := hE1
                  clear hE1 hown hgrow hat HE
                  go_wp2_with fail
                  go_roundg (k - (m + 1))
                  case measure => go_light; omega
                  case rel =>
                    go_light
                    refine ⟨m + 1, by omega, rfl, by simp, ?_⟩
                    rw [el, ← HEe.out, if_neg hmp, ← HQ.out]
                    exact HE1.out
              · obtain rfl : m = k := by omega
                clear hlt hm
                have hflb : fl ≤ 40000 := by
                  rw [HF.out.2, HF.out.1, flat_len, HL.out]
                  have := sum_le (f := fun k => plen (Z0 k)) m (fun i hi => by
                    obtain ⟨_, _, _, h5, h6⟩ := H0.out i (by omega)
                    exact plen_le h5 h6)
                  omega
                have hmk : ∀ W : World, (Instr.makeSlice 27 (.int .i64 0) (.int .i64 ((fl : Int) + 1))).run Yba.prog W = .ok (.slice (some ⟨W.heap.size, 0, none⟩) 0 (fl + 1)) (W.alloc (.cells (madeCells #[.pointer none] (fl + 1)) 29)) := fun W => by
                  have h := run_make (P := Yba.prog) W 27 29 i0 (.pointer none) Yba.underlying27 hi hz0 .i64 .i64 0 ((fl : Int) + 1) (by omega) (by omega) (by rw [hz2]; omega) (by omega)
                  rw [hz1, show ((fl : Int) + 1).toNat * 1 = fl + 1 by omega, show ((fl : Int) + 1).toNat = fl + 1 by omega] at h
                  exact h
                have HY : Hid (Ey _ _ _ _ _ _ _ _ _ _ _ _) := Ey.start (c := fl + 1) hE (by unfold maxLen; omega)
                obtain ⟨s, hs⟩ : ∃ s, s = wo.heap.size := ⟨_, rfl⟩
                rw [← hs]
                have HSs : Hid (s = wo.heap.size) := hs
                clear hE hEe hne hxs HE hs hjN' hI'
                go_wp2_with fail
                clear hmk
                go_loopg [26, 27] (fl + 1) (fun g y i wr => ∃ q : Nat, q ≤ fl + 1 ∧ g = fl + 1 - q ∧ i = .int .i64 q ∧ Ey w wr m (fun k => plen (Z0 k)) v (.slice A fl c) L F (.slice Ae ne ce) E y (ef F T s q))
                case atStart => exact ⟨0, Nat.zero_le _, rfl, rfl, HY.out⟩
                case round =>
                  obtain ⟨q, hq, rfl, rfl, hY⟩ := hrel
                  obtain ⟨w5, rfl⟩ : ∃ w5, w5 = wr := ⟨_, rfl⟩
                  clear HY
                  obtain ⟨Y, hYe⟩ : ∃ Y, Y = ef F T s q := ⟨_, rfl⟩
                  rw [← hYe] at hY
                  obtain ⟨Ay, cy, hy⟩ := own_form hY.own
                  obtain ⟨ny, hny⟩ : ∃ ny, ny = Y.length := ⟨_, rfl⟩
                  rw [← hny] at hy
                  subst hy
                  have hfl : fl = F.length := HF.out.2
                  have hnyb : ny ≤ 40001 := by
                    have := ef_length F T s q
                    rw [hny, hYe]; omega
                  obtain ⟨ys, hys⟩ : ∃ ys, ys = Y.map ptr := ⟨_, rfl⟩
                  have HYe : Hid (Y = ef F T s q) := hYe
                  have HNy : Hid (ny = Y.length) := hny
                  have HYs : Hid (ys = Y.map ptr) := hys
                  have HY : Hid (Ey w w5 m (fun k => plen (Z0 k)) v (.slice A fl c) L F (.slice Ae ne ce) E (.slice Ay ny cy) Y) := hY
                  have hGl5 : w.heap.size + 1 < w5.heap.size := hY.ex.st.lens.lt
                  by_cases hqf : q < fl
                  · have hqfz : (q : Int) < (fl : Int) := by omega
                    obtain ⟨gf, cf, hAf, cF⟩ := own_cell hY.ex.st.flat (i := q) (by omega)
                    rw [← hfl] at hAf
                    cases hAf
                    obtain ⟨f, hf⟩ : ∃ f, f = F.getD q 0 := ⟨_, rfl⟩
                    have hgd : (F.map ptr).getD q undef = ptr f := by
                      rw [hf, List.getD_eq_getElem?_getD, List.getD_eq_getElem?_getD, List.getElem?_map, List.getElem?_eq_getElem (by omega)]; rfl
                    rw [hgd] at cF
                    have HFq : Hid (f = F.getD q 0) := hf
                    by_cases hqT : q = T
                    · subst hqT
                      have hef : ef F q s (q + 1) = (Y ++ [s]) ++ [f] := by rw [ef_at (by omega), ← hYe, hf]
                      have HEF : Hid (ef F q s (q + 1) = (Y ++ [s]) ++ [f]) := hef
                      have HGD : Hid ((F.map ptr).getD q undef = ptr f ∧ q < F.length) := ⟨hgd, by omega⟩
                      clear hY hYe hny hys hf hgd hef hfl
                      go_wp2_with (at_builtin; refine wpList_append_lies _ rfl (.tmp 201) (.tmp 203) 27 rfl (w.heap.size + 2) 29 i0 (.pointer none) 1 8 Yba.underlying27 hi hz0 hz1 hz2 rfl (by decide) _ ny ys rfl ?p0 ⟨w5.heap.size, 0, none⟩ 1 1 [ptr s] rfl rfl ?p1 ?p2 (by omega) ?p3 ?p4 ?p5 (w5.heap.size + 1) ?p6 ?_)
                      case p0 =>
                        have := own_alloc HY.out.own (.cells #[ptr s] 29)
                        rw [← HNy.out, ← HYs.out] at this
                        exact this
                      (try case p1 => exact World.news_of_block (w := w5.alloc (.cells #[ptr s] 29)) (cs := #[ptr s]) (t := 29) (fr := (0, 0)) (by show (w5.heap.push _)[w5.heap.size]? = _; simp))
                      case p2 => intro u hu; obtain rfl : u = _ := by simpa using hu
                                 rfl
                      case p3 => unfold maxLen; omega
                      case p4 => omega
                      case p5 => have := HY.out.ex.st.idx.room; simp; omega
                      (try case p6 => simp)
                      intro gw6 capw6 w6 hown hgrow hat hltw6
                      have hY1 := HY.out.next _ (by rw [← HNy.out]) (by rw [← HYs.out]; exact hown) hgrow hat
                      have HY6 : Hid (Ey _ _ _ _ _ _ _ _ _ _ _ _) := hY1
                      clear hY1 hown hgrow hat
                      obtain ⟨gf', cf', hAf', cF6⟩ := own_cell HY6.out.ex.st.flat (i := q) HGD.out.2
                      rw [← HF.out.2] at hAf'
                      cases hAf'
                      rw [HGD.out.1] at cF6
                      obtain ⟨n6, hn6⟩ : ∃ n6, n6 = (Y ++ [s]).length := ⟨_, rfl⟩
                      have hn6' : ny + 1 = n6 := by rw [hn6, List.length_append, ← HNy.out]; rfl
                      obtain ⟨ys6, hys6⟩ : ∃ ys6, ys6 = (Y ++ [s]).map ptr := ⟨_, rfl⟩
                      have HN6 : Hid (ny + 1 = (Y ++ [s]).length) := hn6'.trans hn6
                      have HYs6 : Hid (ys6 = (Y ++ [s]).map ptr) := hys6
                      have hGl6 : w.heap.size + 1 < w6.heap.size := HY6.out.ex.st.lens.lt
                      subst hn6'
                      clear HY hn6 hys6 cF
                      go_wp2_with (at_builtin; refine wpList_append_lies _ rfl (.tmp 209) (.tmp 214) 27 rfl (w.heap.size + 2) 29 i0 (.pointer none) 1 8 Yba.underlying27 hi hz0 hz1 hz2 rfl (by decide) _ (ny + 1) ys6 rfl ?q0 ⟨w6.heap.size, 0, none⟩ 1 1 [ptr f] rfl rfl ?q1 ?q2 (by omega) ?q3 ?q4 ?q5 (w6.heap.size + 1) ?q6 ?_)
                      case q0 =>
                        have := own_alloc HY6.out.own (.cells #[ptr f] 29)
                        rw [← HN6.out, ← HYs6.out] at this
                        exact this
                      (try case q1 => exact World.news_of_block (w := w6.alloc (.cells #[ptr f] 29)) (cs := #[ptr f]) (t := 29) (fr := (0, 0)) (by show (w6.heap.push _)[w6.heap.size]? = _; simp))
                      case q2 => intro u hu; obtain rfl : u = _ := by simpa using hu
                                 rfl
                      case q3 => unfold maxLen; omega
                      case q4 => omega
                      case q5 => have := HY6.out.ex.st.idx.room; simp; omega
                      (try case q6 => simp)
                      intro gw7 capw7 w7 hown hgrow hat hltw7
                      have hY1 := HY6.out.next _ (by rw [← HN6.out]) (by rw [← HYs6.out]; exact hown) hgrow hat
                      have HY7 : Hid (Ey _ _ _ _ _ _ _ _ _ _ _ _) := hY1
                      clear hY1 hown hgrow hat
                      go_wp2_with fail
                      go_roundg (fl + 1 - (q + 1))
                      case measure => go_light; omega
                      case rel =>
                        go_light
                        refine ⟨q + 1, by omega, rfl, by simp, ?_⟩
                        rw [HEF.out]
                        exact HY7.out
                    · have hqTz : ((q : Int) == (T : Int)) = false := by simp; omega
                      have hef : ef F T s (q + 1) = Y ++ [f] := by
                        by_cases hlo : q < T
                        · rw [ef_lo hlo (by omega), ← hYe, hf]
                        · rw [ef_hi (by omega) (by omega), ← hYe, hf]
                      have HEF : Hid (ef F T s (q + 1) = Y ++ [f]) := hef
                      clear hY hYe hny hys hf hgd hef hfl
                      go_wp2_with (at_builtin; refine wpList_append_lies _ rfl (.tmp 209) (.tmp 214) 27 rfl (w.heap.size + 2) 29 i0 (.pointer none) 1 8 Yba.underlying27 hi hz0 hz1 hz2 rfl (by decide) _ ny ys rfl ?r0 ⟨w5.heap.size, 0, none⟩ 1 1 [ptr f] rfl rfl ?r1 ?r2 (by omega) ?r3 ?r4 ?r5 (w5.heap.size + 1) ?r6 ?_)
                      case r0 =>
                        have := own_alloc HY.out.own (.cells #[ptr f] 29)
                        rw [← HNy.out, ← HYs.out] at this
                        exact this
                      (try case r1 => exact World.news_of_block (w := w5.alloc (.cells #[ptr f] 29)) (cs := #[ptr f]) (t := 29) (fr := (0, 0)) (by show (w5.heap.push _)[w5.heap.size]? = _; simp))
                      case r2 => intro u hu; obtain rfl : u = _ := by simpa using hu
                                 rfl
                      case r3 => unfold maxLen; omega
                      case r4 => omega
                      case r5 => have := HY.out.ex.st.idx.room; simp; omega
                      (try case r6 => simp)
                      intro gw6 capw6 w6 hown hgrow hat hltw6
                      have hY1 := HY.out.next _ (by rw [← HNy.out]) (by rw [← HYs.out]; exact hown) hgrow hat
                      have HY6 : Hid (Ey _ _ _ _ _ _ _ _ _ _ _ _) := hY1
                      clear hY1 hown hgrow hat
                      go_wp2_with fail
                      go_roundg (fl + 1 - (q + 1))
                      case measure => go_light; omega
                      case rel =>
                        go_light
                        refine ⟨q + 1, by omega, rfl, by simp, ?_⟩
                        rw [HEF.out]
                        exact HY6.out
                  · by_cases hqe : q = fl
                    · by_cases hqT : q = T
                      · have hef : ef F T s (q + 1) = Y ++ [s] := by rw [hYe, hqT]; exact ef_end (by omega)
                        have HEF : Hid (ef F T s (q + 1) = Y ++ [s]) := hef
                        subst hqT
                        subst hqe
                        clear hY hYe hny hys hef hfl
                        go_wp2_with (at_builtin; refine wpList_append_lies _ rfl (.tmp 201) (.tmp 203) 27 rfl (w.heap.size + 2) 29 i0 (.pointer none) 1 8 Yba.underlying27 hi hz0 hz1 hz2 rfl (by decide) _ ny ys rfl ?s0 ⟨w5.heap.size, 0, none⟩ 1 1 [ptr s] rfl rfl ?s1 ?s2 (by omega) ?s3 ?s4 ?s5 (w5.heap.size + 1) ?s6 ?_)
                        case s0 =>
                          have := own_alloc HY.out.own (.cells #[ptr s] 29)
                          rw [← HNy.out, ← HYs.out] at this
                          exact this
                        (try case s1 => exact World.news_of_block (w := w5.alloc (.cells #[ptr s] 29)) (cs := #[ptr s]) (t := 29) (fr := (0, 0)) (by show (w5.heap.push _)[w5.heap.size]? = _; simp))
                        case s2 => intro u hu; obtain rfl : u = _ := by simpa using hu
                                   rfl
                        case s3 => unfold maxLen; omega
                        case s4 => omega
                        case s5 => have := HY.out.ex.st.idx.room; simp; omega
                        (try case s6 => simp)
                        intro gw6 capw6 w6 hown hgrow hat hltw6
                        have hY1 := HY.out.next _ (by rw [← HNy.out]) (by rw [← HYs.out]; exact hown) hgrow hat
                        have HY6 : Hid (Ey _ _ _ _ _ _ _ _ _ _ _ _) := hY1
                        clear hY1 hown hgrow hat
                        go_wp2_with fail
                        go_roundg (q + 1 - (q + 1))
                        case measure => go_light; omega
                        case rel =>
                          go_light
                          refine ⟨q + 1, by omega, rfl, by simp, ?_⟩
                          rw [HEF.out]
                          exact HY6.out
                      · have hqTz : ((q : Int) == (T : Int)) = false := by simp; omega
                        have hTq : T < q := by omega
                        have hef : ef F T s (q + 1) = Y := by rw [hYe]; exact ef_hi_end hTq (by omega)
                        have HEF : Hid (ef F T s (q + 1) = Y) := hef
                        subst hqe
                        clear hY hYe hny hys hef hfl
                        go_wp2_with fail
                        go_roundg (q + 1 - (q + 1))
                        case measure => go_light; omega
                        case rel =>
                          go_light
                          refine ⟨q + 1, by omega, rfl, by simp, ?_⟩
                          rw [HEF.out]
                          exact HY.out
                    · obtain rfl : q = fl + 1 := by omega
                      have hYF : Y = ins F T s := by rw [hYe]; exact ef_last (by omega) (by omega)
                      have hLl : L.length = m := by
                        have := congrArg List.length HL.out
                        simpa using this
                      have hpa := put_any w5 w.heap.size (w.heap.size + 2) kk N j s I v L (fun k => plen (Z0 k)) hY.ex.st.idx (fun x hx => (hY.ex.st.page x hx).elim fun g e => ⟨g, e.1, e.2.1⟩) (by omega) (by omega) (by rw [hLl]; exact HL.out) HN.out hN1.2 HJ.out.1 HJ.out.2
                      rw [hLl, ← HF.out.1, ← HT.out, ← hYF, ← HEe.out] at hpa
                      have hne1 : 1 ≤ ne := by
                        obtain ⟨d, rfl⟩ : ∃ d, m = kk + 1 + d := ⟨m - (kk + 1), by omega⟩
                        have h1 := congrArg List.length (el_hi (fun k => plen (Z0 k)) kk N j d)
                        rw [← HEe.out, ← HNe.out, List.length_append, List.length_append] at h1
                        have := mid_len N j
                        omega
                      have HP : Hid (Calls Yba.prog 4 #[.pointer (some ⟨w.heap.size, 0, none⟩), .int .i64 kk, .int .i64 I, ptr s] w5 fun e w' => e = .returned (.tuple #[]) ∧ ∃ gv cv, w'.cell? ⟨w.heap.size, 0, none⟩ = some (.slice (some ⟨gv, 0, none⟩) ne cv) ∧ Hid (∃ L', Cmp w w' (.slice (some ⟨gv, 0, none⟩) ne cv) L' (.slice Ae ne ce) E (.slice Ay ny cy) Y)) := hpa.mono (fun e w' ⟨h, ⟨v', L', hA⟩, hK⟩ => by
                        have hC := hY.put hA hK
                        obtain ⟨gv, cv, _, _, _, _, _, hv, _, hd, _⟩ := hC.at (i := 0) (by rw [← HNe.out]; exact hne1)
                        rw [← HNe.out] at hv
                        subst hv
                        exact ⟨h, gv, cv, hd, L', hC⟩)
                      clear hpa hY hYe hny hys hYF hLl HY hfl hqe hqf
                      go_wp2_with (go_at_call 4; refine HP.out.mono ?_; rintro e w6 ⟨rfl, gv, cv, d6, HC⟩)
                      clear HP
                      rw [show decide ((fl : Int) + 1 ≤ (fl : Int)) = false from decide_eq_false (by omega)]
                      obtain ⟨L', hC⟩ := HC.out
                      have HC6 : Hid (Cmp w w6 (.slice (some ⟨gv, 0, none⟩) ne cv) L' (.slice Ae ne ce) E (.slice Ay ny cy) Y) := hC
                      clear HC hC
                      go_loopg [28, 29] ne (fun g ps i wr => ∃ a t : Nat, a ≤ ne ∧ g = ne - a ∧ i = .int .i64 a ∧ ps = .int .i64 (((E.take a).sum : Nat) : Int) ∧ wr = w6.drewN t)
                      case atStart => exact ⟨0, 0, Nat.zero_le _, rfl, rfl, rfl, rfl⟩
                      case round =>
                        obtain ⟨a, t, ha, rfl, rfl, rfl, rfl⟩ := hrel
                        obtain ⟨P, hP⟩ : ∃ P, P = (E.take a).sum := ⟨_, rfl⟩
                        rw [← hP]
                        by_cases hlt : a < ne
                        · have hltz : (a : Int) < (ne : Int) := by omega
                          obtain ⟨gv', cv', ge, ce', gp, cp, lp, e1, e2, d7, c7, x7, hsum, htot, hjj⟩ := HC6.out.at (i := a) (by rw [← HNe.out]; exact hlt)
                          rw [← HNe.out] at e1 e2
                          cases e1
                          cases e2
                          rw [← hP] at hsum htot hjj
                          rw [← HNy.out] at htot hjj
                          have HJJ : Hid (∀ jj, jj < lp → ∃ gy cy' b, Value.slice Ay ny cy = .slice (some ⟨gy, 0, none⟩) ny cy' ∧ w6.cell? ⟨gp, jj, none⟩ = some (ptr b) ∧ w6.cell? ⟨gy, P + jj, none⟩ = some (ptr b)) := hjj
                          have HSum : Hid ((E.take (a + 1)).sum = P + lp) := hsum
                          clear hsum hjj hP d7
                          go_wp2_with fail
                          go_quiet (fail)
                          go_wp2_with fail
                          go_loopg [28, 30] lp (fun g ps i wr => ∃ b t : Nat, b ≤ lp ∧ g = lp - b ∧ i = .int .i64 b ∧ ps = .int .i64 ((P + b : Nat) : Int) ∧ wr = w6.drewN t)
                          case atStart => exact ⟨0, t + nq, Nat.zero_le _, rfl, rfl, rfl, by simp [World.drewN, Nat.add_assoc]⟩
                          case round =>
                            obtain ⟨b, t2, hb, rfl, rfl, rfl, rfl⟩ := hrel
                            by_cases hbl : b < lp
                            · have hblz : (b : Int) < (lp : Int) := by omega
                              have hPz : ((P + b : Nat) : Int) < (ny : Int) := by omega
                              obtain ⟨gy, cy', x, e1, k1, k2⟩ := HJJ.out b hbl
                              cases e1
                              have hq := neq_same29
                              obtain ⟨R, hR⟩ : ∃ R, P + b = R := ⟨_, rfl⟩
                              rw [hR] at k2 hPz ⊢
                              have HR : Hid (P + b = R) := hR
                              clear hR
                              go_wp2_with fail
                              go_quiet (fail)
                              go_wp2_with fail
                              go_roundg (lp - (b + 1))
                              case measure => go_light; omega
                              case rel =>
                                go_light
                                refine ⟨b + 1, _, by omega, rfl, by simp, ?_, rfl⟩
                                rw [← Nat.add_assoc, HR.out]; simp
                            · obtain rfl : b = lp := by omega
                              go_wp2_with fail
                              go_roundg (ne - (a + 1))
                              case measure => go_light; omega
                              case rel =>
                                go_light
                                exact ⟨a + 1, _, by omega, rfl, by simp, by rw [HSum.out], rfl⟩
                        · obtain rfl : a = ne := by omega
                          have hPn : P = ny := by
                            rw [hP, HNy.out, HC6.out.sums, HNe.out, List.take_length]
                          subst hPn
                          go_wp2_with fail
                          go_ret
                          exact ⟨rfl, below_drewN HC6.out.base _⟩
end Go.Proofs.Ybulkdklm.E
