/-
  THE BANDED ROWS HOLD THE DISTANCES: plainly.
-/
import Derived.Test.Qxb6600935aModsNext
import Derived.Test.Qxb6600935aModsOsa
namespace Go.Proofs.Qxb6600935aMods.B
open Go.RowKit Go.Proofs.Qxb6600935aMods.Pl

theorem cells_at (ns : List Int) (band i c prev : Int) (older above : Nat → Int) (w k : Nat) (h : k < w) : (cells ns band i c prev older above w).getD k 0 = cellOf ns band i c prev older above ((cells ns band i c prev older above k).getD (k - 1) 0) k := by
  induction w with
  | zero => omega
  | succ w ih =>
    by_cases hk : k = w
    · subst hk
      simp only [cells, List.getD]
      rw [List.getElem?_append_right (by rw [length_cells]; omega), length_cells]
      simp
    · rw [← ih (by omega)]
      simp only [cells, List.getD]
      rw [List.getElem?_append_left (by rw [length_cells]; omega)]
theorem cells_prev (ns : List Int) (band i c prev : Int) (older above : Nat → Int) (w k : Nat) (h : k < w) : (cells ns band i c prev older above (k + 1)).getD k 0 = (cells ns band i c prev older above w).getD k 0 := by
  rw [cells_at _ _ _ _ _ _ _ w k h, cells_at _ _ _ _ _ _ _ (k + 1) k (by omega)]

/-- Array arr holds row i of the table, as far as the band goes. -/
def Holds (st ns : List Int) (band : Int) (i : Nat) (arr : Nat → Int) : Prop :=
  ∀ k jj : Nat, (k : Int) < 2 * band + 1 → (jj : Int) = (i : Int) + k - band → jj ≤ ns.length → Rel band (arr k) (D st ns i jj)
/-- Its numbers are small. -/
def Small (m : Int) (arr : Nat → Int) : Prop := ∀ k, 0 ≤ arr k ∧ arr k ≤ m

theorem rel_inner {band T t1 t2 t3 t4 a0 a1 a2 a3 : Int} {sw right lft : Prop} (hT1 : T ≤ t1) (hT2 : T ≤ t2) (hT3 : T ≤ t3) (hT4 : sw → T ≤ t4) (hT : T = t1 ∨ T = t2 ∨ T = t3 ∨ (sw ∧ T = t4))
    (r1 : Rel band a0 t1) (r2 : right → Rel band a1 t2) (r2' : ¬ right → band < t2) (r3 : lft → Rel band a2 t3) (r3' : ¬ lft → band < t3) (r4 : sw → Rel band a3 t4) {B : Int}
    (hB1 : B ≤ a0) (hB2 : right → B ≤ a1) (hB3 : lft → B ≤ a2) (hB4 : sw → B ≤ a3) (hB : B = a0 ∨ (right ∧ B = a1) ∨ (lft ∧ B = a2) ∨ (sw ∧ B = a3)) : Rel band B T := by
  unfold Rel at *
  by_cases hr : right
  · have r2 := r2 hr
    have hB2 := hB2 hr
    by_cases hl : lft
    · have r3 := r3 hl
      have hB3 := hB3 hl
      by_cases hs : sw
      · have r4 := r4 hs
        have hT4 := hT4 hs
        have hB4 := hB4 hs
        simp only [hr, hl, hs, true_and] at hT hB
        omega
      · simp only [hr, hl, hs, true_and, false_and, or_false] at hT hB
        omega
    · have r3' := r3' hl
      by_cases hs : sw
      · have r4 := r4 hs
        have hT4 := hT4 hs
        have hB4 := hB4 hs
        simp only [hr, hl, hs, true_and, false_and, false_or] at hT hB
        omega
      · simp only [hr, hl, hs, true_and, false_and, or_false] at hT hB
        omega
  · have r2' := r2' hr
    by_cases hl : lft
    · have r3 := r3 hl
      have hB3 := hB3 hl
      by_cases hs : sw
      · have r4 := r4 hs
        have hT4 := hT4 hs
        have hB4 := hB4 hs
        simp only [hr, hl, hs, true_and, false_and, false_or] at hT hB
        omega
      · simp only [hr, hl, hs, true_and, false_and, or_false, false_or] at hT hB
        omega
    · have r3' := r3' hl
      by_cases hs : sw
      · have r4 := r4 hs
        have hT4 := hT4 hs
        have hB4 := hB4 hs
        simp only [hr, hl, hs, true_and, false_and, false_or] at hT hB
        omega
      · simp only [hr, hl, hs, false_and, or_false] at hT hB
        omega

theorem rel_add {band a b : Int} (h : Rel band a b) (c : Int) (hc : 0 ≤ c) : Rel band (a + c) (b + c) := by
  unfold Rel at *
  omega

theorem min_if (P : Prop) [Decidable P] (x y d : Int) (h : (if P then min x y else x) = d) : d ≤ x ∧ (P → d ≤ y) ∧ (d = x ∨ (P ∧ d = y)) ∧ (0 ≤ x → 0 ≤ y → 0 ≤ d) := by
  subst h
  by_cases hp : P
  · rw [if_pos hp]
    refine ⟨by omega, fun _ => by omega, ?_, fun _ _ => by omega⟩
    by_cases hxy : x ≤ y
    · left; omega
    · right; exact ⟨hp, by omega⟩
  · rw [if_neg hp]
    exact ⟨by omega, fun h => absurd h hp, .inl rfl, fun h _ => h⟩

theorem inner_plain (ns : List Int) (band i c prev : Int) (older above : Nat → Int) (left : Int) (k jn : Nat) (cs d1 d2 : Int) (hcs : costOf ns c ((jn : Int) + 1) = cs)
    (hd1 : (if (k : Int) + 1 < 2 * band + 1 then min (wrap64 (above k + cs)) (wrap64 (above (k + 1) + 1)) else wrap64 (above k + cs)) = d1) (hd2 : (if 0 < k then min d1 (wrap64 (left + 1)) else d1) = d2) :
    inner ns band i c prev ((jn : Int) + 1) older above left k = if 1 < i ∧ 1 < (jn : Int) + 1 ∧ ns.getD (jn - 1) 0 = c ∧ ns.getD jn 0 = prev then min d2 (wrap64 (older k + 1)) else d2 := by
  have e1 : ((jn : Int) + 1).toNat - 1 = jn := by omega
  have e2 : ((jn : Int) + 1).toNat - 2 = jn - 1 := by omega
  simp only [inner, e1, e2, hcs, hd1, hd2]

/-- ONE ROW ON. -/
theorem band_cell (st ns : List Int) (band : Int) (i' : Nat) (prev : Int) (older above : Nat → Int) (hb0 : 0 ≤ band) (hb2 : band ≤ 2) (hn : ns.length ≤ 4096) (hi : i' + 1 ≤ 4096)
    (hprev : 1 ≤ i' → prev = st.getD (i' - 1) 0) (hA : Holds st ns band i' above) (hO : 1 ≤ i' → Holds st ns band (i' - 1) older) (sA : Small 9000 above) (sO : Small 9000 older)
    (left : Int) (k : Nat) (hk : (k : Int) < 2 * band + 1) (hl : 0 < k → ∀ jn : Nat, (jn : Int) = ((i' + 1 : Nat) : Int) + (k : Int) - 1 - band → jn ≤ ns.length → Rel band left (D st ns (i' + 1) jn)) (hl0 : 0 ≤ left) (hl1 : left ≤ 9000) :
    (∀ jj : Nat, (jj : Int) = ((i' + 1 : Nat) : Int) + k - band → jj ≤ ns.length → Rel band (cellOf ns band ((i' + 1 : Nat) : Int) (st.getD i' 0) prev older above left k) (D st ns (i' + 1) jj)) ∧
    0 ≤ cellOf ns band ((i' + 1 : Nat) : Int) (st.getD i' 0) prev older above left k ∧
    (cellOf ns band ((i' + 1 : Nat) : Int) (st.getD i' 0) prev older above left k ≤ above k + 1 ∨ cellOf ns band ((i' + 1 : Nat) : Int) (st.getD i' 0) prev older above left k = band + 1 ∨ cellOf ns band ((i' + 1 : Nat) : Int) (st.getD i' 0) prev older above left k = ((i' + 1 : Nat) : Int)) := by
  have ej : jOf ((i' + 1 : Nat) : Int) band k = ((i' + 1 : Nat) : Int) + k - band := by
    unfold jOf
    rw [IntWalk.wrap64_in (((i' + 1 : Nat) : Int) + k) ⟨by omega, by omega⟩, IntWalk.wrap64_in _ ⟨by omega, by omega⟩]
  unfold cellOf
  rw [ej]
  by_cases h1 : ((i' + 1 : Nat) : Int) + k - band < 0 ∨ (ns.length : Int) < ((i' + 1 : Nat) : Int) + k - band
  · rw [if_pos h1]
    exact ⟨fun jj e h => by omega, by omega, .inr (.inl rfl)⟩
  · rw [if_neg h1]
    by_cases h2 : ((i' + 1 : Nat) : Int) + k - band = 0
    · rw [if_pos h2]
      refine ⟨fun jj e h => ?_, by omega, .inr (.inr rfl)⟩
      obtain rfl : jj = 0 := by omega
      rw [D_left]
      unfold Rel
      omega
    · rw [if_neg h2]
      obtain ⟨jn, hjn⟩ := Int.eq_ofNat_of_zero_le (show 0 ≤ ((i' + 1 : Nat) : Int) + k - band - 1 by omega)
      have e1 : ((i' + 1 : Nat) : Int) + k - band = (jn : Int) + 1 := by omega
      rw [e1]
      have hjl : jn < ns.length := by omega
      have ak := sA k
      have ak1 := sA (k + 1)
      have ok := sO k
      have hcost : costOf ns (st.getD i' 0) ((jn : Int) + 1) = if ns.getD jn 0 = st.getD i' 0 then 0 else 1 := by
        unfold costOf
        rw [show ((jn : Int) + 1).toNat - 1 = jn from by omega]
      have hc01 : (0 : Int) ≤ (if ns.getD jn 0 = st.getD i' 0 then 0 else 1) ∧ (if ns.getD jn 0 = st.getD i' 0 then (0 : Int) else 1) ≤ 1 := by split <;> omega
      obtain ⟨cs, hcs⟩ : ∃ cs : Int, (if ns.getD jn 0 = st.getD i' 0 then (0 : Int) else 1) = cs := ⟨_, rfl⟩
      rw [hcs] at hc01
      have w0 : wrap64 (above k + cs) = above k + cs := IntWalk.wrap64_in _ ⟨by omega, by omega⟩
      have w1 : wrap64 (above (k + 1) + 1) = above (k + 1) + 1 := IntWalk.wrap64_in _ ⟨by omega, by omega⟩
      have w2 : wrap64 (left + 1) = left + 1 := IntWalk.wrap64_in _ ⟨by omega, by omega⟩
      have w3 : wrap64 (older k + 1) = older k + 1 := IntWalk.wrap64_in _ ⟨by omega, by omega⟩
      obtain ⟨d1, hd1⟩ : ∃ d1, (if (k : Int) + 1 < 2 * band + 1 then min (above k + cs) (above (k + 1) + 1) else above k + cs) = d1 := ⟨_, rfl⟩
      obtain ⟨d2, hd2⟩ : ∃ d2, (if 0 < k then min d1 (left + 1) else d1) = d2 := ⟨_, rfl⟩
      have hin := inner_plain ns band ((i' + 1 : Nat) : Int) (st.getD i' 0) prev older above left k jn cs d1 d2 (by rw [hcost]; exact hcs) (by rw [w0, w1]; exact hd1) (by rw [w2]; exact hd2)
      rw [w3] at hin
      obtain ⟨E, hE⟩ : ∃ E, inner ns band ((i' + 1 : Nat) : Int) (st.getD i' 0) prev ((jn : Int) + 1) older above left k = E := ⟨_, rfl⟩
      rw [hE] at hin ⊢
      obtain ⟨m1, m2, m3, m4⟩ := min_if _ _ _ _ hd1
      obtain ⟨n1, n2, n3, n4⟩ := min_if _ _ _ _ hd2
      obtain ⟨o1, o2, o3, o4⟩ := min_if _ _ _ _ hin.symm
      obtain ⟨r1, r2, r3, r4, r5⟩ := D_rec st ns i' jn hjl
      rw [hcs] at r1 r5
      have hsw : (1 < ((i' + 1 : Nat) : Int) ∧ 1 < (jn : Int) + 1 ∧ ns.getD (jn - 1) 0 = st.getD i' 0 ∧ ns.getD jn 0 = prev) ↔ Swap st ns i' jn := by
        unfold Swap
        constructor
        · rintro ⟨a, b, c, d⟩
          exact ⟨by omega, by omega, c, by rw [d]; exact hprev (by omega)⟩
        · rintro ⟨a, b, c, d⟩
          exact ⟨by omega, by omega, c, by rw [d]; exact (hprev (by omega)).symm⟩
      refine ⟨fun jj e h => ?_, ?_, ?_⟩
      · obtain rfl : jj = jn + 1 := by omega
        have q1 : Rel band (above k + cs) (D st ns i' jn + cs) := rel_add (hA k jn hk (by omega) (by omega)) cs hc01.1
        have q2 : (k : Int) + 1 < 2 * band + 1 → Rel band (above (k + 1) + 1) (D st ns i' (jn + 1) + 1) := fun hr => rel_add (hA (k + 1) (jn + 1) (by omega) (by omega) (by omega)) 1 (by omega)
        have q2' : ¬ (k : Int) + 1 < 2 * band + 1 → band < D st ns i' (jn + 1) + 1 := fun hr => by have := (D_bd st ns i' (jn + 1) (by omega)).2.1; omega
        have q3 : 0 < k → Rel band (left + 1) (D st ns (i' + 1) jn + 1) := fun hk0 => rel_add (hl hk0 jn (by omega) (by omega)) 1 (by omega)
        have q3' : ¬ 0 < k → band < D st ns (i' + 1) jn + 1 := fun hk0 => by have := (D_bd st ns (i' + 1) jn (by omega)).1; omega
        have q4 : Swap st ns i' jn → Rel band (older k + 1) (D st ns (i' - 1) (jn - 1) + 1) := fun hs => by
          have s1 := hs.1
          have s2 := hs.2.1
          exact rel_add (hO (by omega) k (jn - 1) hk (by omega) (by omega)) 1 (by omega)
        have B3 : 0 < k → E ≤ left + 1 := fun hh => by have := n2 hh; omega
        have B2 : (k : Int) + 1 < 2 * band + 1 → E ≤ above (k + 1) + 1 := fun hh => by have := m2 hh; omega
        have B4 : Swap st ns i' jn → E ≤ older k + 1 := fun hh => o2 (hsw.2 hh)
        have BB : E = above k + cs ∨ ((k : Int) + 1 < 2 * band + 1 ∧ E = above (k + 1) + 1) ∨ (0 < k ∧ E = left + 1) ∨ (Swap st ns i' jn ∧ E = older k + 1) := by
          rcases o3 with o3 | ⟨os, o3⟩
          · rcases n3 with n3 | ⟨ns', n3⟩
            · rcases m3 with m3 | ⟨ms, m3⟩
              · left; omega
              · right; left; exact ⟨ms, by omega⟩
            · right; right; left; exact ⟨ns', by omega⟩
          · right; right; right; exact ⟨hsw.1 os, o3⟩
        exact rel_inner (sw := Swap st ns i' jn) (right := (k : Int) + 1 < 2 * band + 1) (lft := 0 < k) r1 r2 r3 r4 r5 q1 q2 q2' q3 q3' q4 (by omega) B2 B3 B4 BB
      · have z1 := m4 (by omega) (by omega)
        have z2 := n4 z1 (by omega)
        exact o4 z2 (by omega)
      · left
        omega

/-- The row that next gives holds row i of the table; its numbers are small; and it is within the limit just where some distance of the row is. -/
theorem band_row (st ns : List Int) (band : Int) (i' : Nat) (prev : Int) (older above : Nat → Int) (hb0 : 0 ≤ band) (hb2 : band ≤ 2) (hn : ns.length ≤ 4096) (hi : i' + 1 ≤ 4096)
    (hprev : 1 ≤ i' → prev = st.getD (i' - 1) 0) (hA : Holds st ns band i' above) (hO : 1 ≤ i' → Holds st ns band (i' - 1) older) (sA : Small ((i' : Int) + 3) above) (sO : Small ((i' : Int) + 3) older) (w : Nat) (hw : (w : Int) ≤ 2 * band + 1) :
    (∀ k jj : Nat, k < w → (jj : Int) = ((i' + 1 : Nat) : Int) + k - band → jj ≤ ns.length → Rel band ((cells ns band ((i' + 1 : Nat) : Int) (st.getD i' 0) prev older above w).getD k 0) (D st ns (i' + 1) jj)) ∧
    (∀ k : Nat, 0 ≤ (cells ns band ((i' + 1 : Nat) : Int) (st.getD i' 0) prev older above w).getD k 0 ∧ (cells ns band ((i' + 1 : Nat) : Int) (st.getD i' 0) prev older above w).getD k 0 ≤ (i' : Int) + 4) := by
  have sA' : Small 9000 above := fun k => by have := sA k; omega
  have sO' : Small 9000 older := fun k => by have := sO k; omega
  induction w with
  | zero => exact ⟨fun k jj h => by omega, fun k => by simp [cells]; omega⟩
  | succ w ih =>
    obtain ⟨ih1, ih2⟩ := ih (by omega)
    have hc := band_cell st ns band i' prev older above hb0 hb2 hn hi hprev hA hO sA' sO' ((cells ns band ((i' + 1 : Nat) : Int) (st.getD i' 0) prev older above w).getD (w - 1) 0) w (by omega)
      (fun hk0 jn e h => ih1 (w - 1) jn (by omega) (by omega) h) (ih2 (w - 1)).1 (by have := (ih2 (w - 1)).2; omega)
    have hat : ∀ k, k < w + 1 → (cells ns band ((i' + 1 : Nat) : Int) (st.getD i' 0) prev older above (w + 1)).getD k 0 = if k = w then cellOf ns band ((i' + 1 : Nat) : Int) (st.getD i' 0) prev older above ((cells ns band ((i' + 1 : Nat) : Int) (st.getD i' 0) prev older above w).getD (w - 1) 0) w else (cells ns band ((i' + 1 : Nat) : Int) (st.getD i' 0) prev older above w).getD k 0 := by
      intro k hk
      rw [cells_at _ _ _ _ _ _ _ _ _ hk]
      by_cases hkw : k = w
      · rw [if_pos hkw, hkw]
      · rw [if_neg hkw, cells_at _ _ _ _ _ _ _ w k (by omega)]
    refine ⟨fun k jj hk e h => ?_, fun k => ?_⟩
    · rw [hat k hk]
      by_cases hkw : k = w
      · rw [if_pos hkw]
        exact hc.1 jj (by omega) h
      · rw [if_neg hkw]
        exact ih1 k jj (by omega) e h
    · by_cases hk : k < w + 1
      · rw [hat k hk]
        by_cases hkw : k = w
        · rw [if_pos hkw]
          have a1 := (sA w).2
          rcases hc.2.2 with h3 | h3 | h3
          · exact ⟨hc.2.1, by omega⟩
          · exact ⟨hc.2.1, by omega⟩
          · exact ⟨hc.2.1, by omega⟩
        · rw [if_neg hkw]
          exact ih2 k
      · have : (cells ns band ((i' + 1 : Nat) : Int) (st.getD i' 0) prev older above (w + 1)).getD k 0 = 0 := by
          simp only [List.getD]
          rw [List.getElem?_eq_none (by rw [length_cells]; omega)]
          rfl
        rw [this]
        omega

theorem near_iff (l : List Int) (limit : Int) : near l limit = true ↔ ∃ k, k < l.length ∧ l.getD k 0 ≤ limit := by
  unfold near
  rw [List.any_eq_true]
  constructor
  · rintro ⟨x, hx, h⟩
    obtain ⟨k, hk, rfl⟩ := List.getElem_of_mem hx
    exact ⟨k, hk, by rw [getD_at hk]; simpa using h⟩
  · rintro ⟨k, hk, h⟩
    rw [getD_at hk] at h
    exact ⟨l[k], List.getElem_mem hk, by simpa using h⟩

theorem near_eq (st ns : List Int) (band limit : Int) (i' : Nat) (prev : Int) (older above : Nat → Int) (hb0 : 0 ≤ band) (hb2 : band ≤ 2) (hlim : limit ≤ band) (hn : ns.length ≤ 4096) (hi : i' + 1 ≤ 4096)
    (hprev : 1 ≤ i' → prev = st.getD (i' - 1) 0) (hA : Holds st ns band i' above) (hO : 1 ≤ i' → Holds st ns band (i' - 1) older) (sA : Small ((i' : Int) + 3) above) (sO : Small ((i' : Int) + 3) older) :
    near (cells ns band ((i' + 1 : Nat) : Int) (st.getD i' 0) prev older above (2 * band + 1).toNat) limit = near (tab st ns (i' + 1)).2 limit := by
  obtain ⟨w, hw⟩ : ∃ w : Nat, (2 * band + 1).toNat = w := ⟨_, rfl⟩
  rw [hw]
  have hr := band_row st ns band i' prev older above hb0 hb2 hn hi hprev hA hO sA sO w (by omega)
  rw [Bool.eq_iff_iff, near_iff, near_iff, length_cells, (length_tab st ns (i' + 1)).2]
  constructor
  · rintro ⟨k, hk, h⟩
    have ej : jOf ((i' + 1 : Nat) : Int) band k = ((i' + 1 : Nat) : Int) + k - band := by
      unfold jOf
      rw [IntWalk.wrap64_in (((i' + 1 : Nat) : Int) + k) ⟨by omega, by omega⟩, IntWalk.wrap64_in _ ⟨by omega, by omega⟩]
    by_cases ho : ((i' + 1 : Nat) : Int) + k - band < 0 ∨ (ns.length : Int) < ((i' + 1 : Nat) : Int) + k - band
    · rw [cells_at _ _ _ _ _ _ _ _ _ hk, cellOf, ej, if_pos ho] at h
      omega
    · obtain ⟨jj, hjj⟩ := Int.eq_ofNat_of_zero_le (show 0 ≤ ((i' + 1 : Nat) : Int) + k - band by omega)
      have hrel := hr.1 k jj hk (by omega) (by omega)
      refine ⟨jj, by omega, ?_⟩
      show D st ns (i' + 1) jj ≤ limit
      unfold Rel at hrel
      omega
  · rintro ⟨jj, hjj, h⟩
    have h' : D st ns (i' + 1) jj ≤ limit := h
    have hb := D_bd st ns (i' + 1) jj (by omega)
    obtain ⟨k, hk⟩ := Int.eq_ofNat_of_zero_le (show 0 ≤ (jj : Int) - ((i' + 1 : Nat) : Int) + band by omega)
    have hrel := hr.1 k jj (by omega) (by omega) (by omega)
    refine ⟨k, by omega, ?_⟩
    unfold Rel at hrel
    omega

end Go.Proofs.Qxb6600935aMods.B
