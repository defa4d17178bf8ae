/-
  THE PLAIN TABLE of optimal string alignment distances, row by row, as the law's own helper fills it. No Go in sight; nothing of the dump is imported.
-/
namespace Go.Proofs.Qxb6600935aMods.Pl

/-- The entry at column j (from 1 on) of row i: a is the status's byte i-1, p its byte i-2; d1 is row i-1, d2 row i-2, left the entry at column j-1. -/
def osaStep (a p : Int) (ns : List Int) (i : Nat) (d2 d1 : List Int) (left : Int) (j : Nat) : Int :=
  let v0 := if ns.getD (j - 1) 0 = a then d1.getD (j - 1) 0 else d1.getD (j - 1) 0 + 1
  let v1 := if d1.getD j 0 + 1 < v0 then d1.getD j 0 + 1 else v0
  let v2 := if left + 1 < v1 then left + 1 else v1
  if 1 < i ∧ 1 < j ∧ ns.getD (j - 2) 0 = a ∧ ns.getD (j - 1) 0 = p ∧ d2.getD (j - 2) 0 + 1 < v2 then d2.getD (j - 2) 0 + 1 else v2

/-- Row i as far as column j. -/
def osaTo (a p : Int) (ns : List Int) (i : Nat) (d2 d1 : List Int) : Nat → List Int
  | 0 => [(i : Int)]
  | j + 1 => osaTo a p ns i d2 d1 j ++ [osaStep a p ns i d2 d1 ((osaTo a p ns i d2 d1 j).getD j 0) (j + 1)]

def row0 (n : Nat) : List Int := (List.range (n + 1)).map Int.ofNat

/-- Rows i-1 and i. -/
def tab (st ns : List Int) : Nat → List Int × List Int
  | 0 => (List.replicate (ns.length + 1) 0, row0 ns.length)
  | i + 1 => ((tab st ns i).2, osaTo (st.getD i 0) (st.getD (i - 1) 0) ns (i + 1) (tab st ns i).1 (tab st ns i).2 ns.length)

/-- The distance between the first i bytes of the status and the first j runes of the name. -/
def D (st ns : List Int) (i j : Nat) : Int := (tab st ns i).2.getD j 0

theorem length_osaTo (a p : Int) (ns : List Int) (i : Nat) (d2 d1 : List Int) (j : Nat) : (osaTo a p ns i d2 d1 j).length = j + 1 := by
  induction j with
  | zero => rfl
  | succ j ih => simp [osaTo, ih]
theorem osaTo_at (a p : Int) (ns : List Int) (i : Nat) (d2 d1 : List Int) (j t : Nat) (h : t ≤ j) : (osaTo a p ns i d2 d1 j).getD t 0 = (osaTo a p ns i d2 d1 t).getD t 0 := by
  induction j with
  | zero => obtain rfl : t = 0 := by omega
            rfl
  | succ j ih =>
    by_cases ht : t = j + 1
    · rw [ht]
    · rw [← ih (by omega)]
      simp only [osaTo, List.getD]
      rw [List.getElem?_append_left (by rw [length_osaTo]; omega)]
theorem osaTo_last (a p : Int) (ns : List Int) (i : Nat) (d2 d1 : List Int) (j : Nat) : (osaTo a p ns i d2 d1 (j + 1)).getD (j + 1) 0 = osaStep a p ns i d2 d1 ((osaTo a p ns i d2 d1 j).getD j 0) (j + 1) := by
  simp only [osaTo, List.getD]
  rw [List.getElem?_append_right (by rw [length_osaTo]; omega), length_osaTo]
  simp
theorem length_tab (st ns : List Int) (i : Nat) : (tab st ns i).1.length = ns.length + 1 ∧ (tab st ns i).2.length = ns.length + 1 := by
  cases i with
  | zero => simp [tab, row0]
  | succ i =>
    simp only [tab, length_osaTo, and_true]
    cases i with
    | zero => simp [tab, row0]
    | succ i => simp [tab, length_osaTo]

theorem D_zero (st ns : List Int) (j : Nat) (h : j ≤ ns.length) : D st ns 0 j = j := by
  simp [D, tab, row0, List.getD, show j < ns.length + 1 from by omega]
theorem D_left (st ns : List Int) (i : Nat) : D st ns i 0 = i := by
  cases i with
  | zero => exact D_zero st ns 0 (Nat.zero_le _)
  | succ i => simp only [D, tab]; rw [osaTo_at _ _ _ _ _ _ _ _ (Nat.zero_le _)]; simp [osaTo]
theorem tab_fst (st ns : List Int) (i : Nat) : (tab st ns (i + 1)).1 = (tab st ns i).2 := rfl

/-- The entry, in the distances' own words. -/
theorem D_succ (st ns : List Int) (i j : Nat) (h : j < ns.length) : D st ns (i + 1) (j + 1) =
    osaStep (st.getD i 0) (st.getD (i - 1) 0) ns (i + 1) (tab st ns i).1 (tab st ns i).2 (D st ns (i + 1) j) (j + 1) := by
  have e1 : D st ns (i + 1) (j + 1) = (osaTo (st.getD i 0) (st.getD (i - 1) 0) ns (i + 1) (tab st ns i).1 (tab st ns i).2 (j + 1)).getD (j + 1) 0 := by
    simp only [D, tab]; exact osaTo_at _ _ _ _ _ _ _ _ (by omega)
  have e2 : D st ns (i + 1) j = (osaTo (st.getD i 0) (st.getD (i - 1) 0) ns (i + 1) (tab st ns i).1 (tab st ns i).2 j).getD j 0 := by
    simp only [D, tab]; exact osaTo_at _ _ _ _ _ _ _ _ (by omega)
  rw [e1, osaTo_last, e2]

/-- Does the swap serve at (i+1, j+1)? -/
def Swap (st ns : List Int) (i j : Nat) : Prop := 1 < i + 1 ∧ 1 < j + 1 ∧ ns.getD (j - 1) 0 = st.getD i 0 ∧ ns.getD j 0 = st.getD (i - 1) 0

/-- The recurrence: the entry is the least of its three or four grounds. -/
theorem D_rec (st ns : List Int) (i j : Nat) (h : j < ns.length) :
    (D st ns (i + 1) (j + 1) ≤ D st ns i j + (if ns.getD j 0 = st.getD i 0 then 0 else 1)) ∧ (D st ns (i + 1) (j + 1) ≤ D st ns i (j + 1) + 1) ∧ (D st ns (i + 1) (j + 1) ≤ D st ns (i + 1) j + 1) ∧
    (Swap st ns i j → D st ns (i + 1) (j + 1) ≤ D st ns (i - 1) (j - 1) + 1) ∧
    (D st ns (i + 1) (j + 1) = D st ns i j + (if ns.getD j 0 = st.getD i 0 then 0 else 1) ∨ D st ns (i + 1) (j + 1) = D st ns i (j + 1) + 1 ∨ D st ns (i + 1) (j + 1) = D st ns (i + 1) j + 1 ∨ (Swap st ns i j ∧ D st ns (i + 1) (j + 1) = D st ns (i - 1) (j - 1) + 1)) := by
  have e := D_succ st ns i j h
  have d1a : (tab st ns i).2.getD j 0 = D st ns i j := rfl
  have d1b : (tab st ns i).2.getD (j + 1) 0 = D st ns i (j + 1) := rfl
  have d2 : Swap st ns i j → (tab st ns i).1.getD (j + 1 - 2) 0 = D st ns (i - 1) (j - 1) := fun hs => by
    obtain ⟨h1, h2, _⟩ := hs
    obtain ⟨i', rfl⟩ : ∃ i', i = i' + 1 := ⟨i - 1, by omega⟩
    rfl
  unfold osaStep at e
  simp only [Nat.add_sub_cancel, d1a, d1b, show j + 1 - 2 = j - 1 from by omega] at e d2
  by_cases hc : ns.getD j 0 = st.getD i 0
  · simp only [hc, if_true] at e ⊢
    by_cases hs : Swap st ns i j
    · have hs' := hs
      obtain ⟨h1, h2, h3, h4⟩ := hs
      rw [hc] at h4
      rw [d2 hs'] at e
      simp only [h1, h2, h3, h4, true_and] at e
      refine ⟨?_, ?_, ?_, fun _ => ?_, ?_⟩
      · split at e <;> split at e <;> split at e <;> omega
      · split at e <;> split at e <;> split at e <;> omega
      · split at e <;> split at e <;> split at e <;> omega
      · split at e <;> split at e <;> split at e <;> omega
      · split at e <;> split at e <;> split at e <;> first | (left; omega) | (right; left; omega) | (right; right; left; omega) | (right; right; right; exact ⟨hs', by omega⟩)
    · rw [if_neg (fun hh => hs ⟨hh.1, hh.2.1, hh.2.2.1, by rw [hc]; exact hh.2.2.2.1⟩)] at e
      refine ⟨?_, ?_, ?_, fun hh => absurd hh hs, ?_⟩
      · split at e <;> split at e <;> omega
      · split at e <;> split at e <;> omega
      · split at e <;> split at e <;> omega
      · split at e <;> split at e <;> first | (left; omega) | (right; left; omega) | (right; right; left; omega)
  · simp only [hc, if_false] at e ⊢
    by_cases hs : Swap st ns i j
    · have hs' := hs
      obtain ⟨h1, h2, h3, h4⟩ := hs
      rw [d2 hs'] at e
      simp only [h1, h2, h3, h4, true_and] at e
      refine ⟨?_, ?_, ?_, fun _ => ?_, ?_⟩
      · split at e <;> split at e <;> split at e <;> omega
      · split at e <;> split at e <;> split at e <;> omega
      · split at e <;> split at e <;> split at e <;> omega
      · split at e <;> split at e <;> split at e <;> omega
      · split at e <;> split at e <;> split at e <;> first | (left; omega) | (right; left; omega) | (right; right; left; omega) | (right; right; right; exact ⟨hs', by omega⟩)
    · rw [if_neg (fun hh => hs ⟨hh.1, hh.2.1, hh.2.2.1, hh.2.2.2.1⟩)] at e
      refine ⟨?_, ?_, ?_, fun hh => absurd hh hs, ?_⟩
      · split at e <;> split at e <;> omega
      · split at e <;> split at e <;> omega
      · split at e <;> split at e <;> omega
      · split at e <;> split at e <;> first | (left; omega) | (right; left; omega) | (right; right; left; omega)

/-- The distance is at least the difference of the lengths, and at most their sum. -/
theorem D_bd2 (st ns : List Int) (i : Nat) : (∀ j, j ≤ ns.length → (i : Int) - j ≤ D st ns i j ∧ (j : Int) - i ≤ D st ns i j ∧ D st ns i j ≤ i + j) ∧
    (∀ j, j ≤ ns.length → ((i + 1 : Nat) : Int) - j ≤ D st ns (i + 1) j ∧ (j : Int) - (i + 1 : Nat) ≤ D st ns (i + 1) j ∧ D st ns (i + 1) j ≤ (i + 1 : Nat) + j) := by
  have step : ∀ i : Nat, (∀ j, j ≤ ns.length → (i : Int) - j ≤ D st ns i j ∧ (j : Int) - i ≤ D st ns i j ∧ D st ns i j ≤ i + j) → (1 ≤ i → ∀ j, j ≤ ns.length → ((i - 1 : Nat) : Int) - j ≤ D st ns (i - 1) j ∧ (j : Int) - (i - 1 : Nat) ≤ D st ns (i - 1) j) →
      ∀ j, j ≤ ns.length → ((i + 1 : Nat) : Int) - j ≤ D st ns (i + 1) j ∧ (j : Int) - (i + 1 : Nat) ≤ D st ns (i + 1) j ∧ D st ns (i + 1) j ≤ (i + 1 : Nat) + j := by
    intro i h1 h2 j
    induction j with
    | zero => intro _; rw [D_left]; omega
    | succ j ih =>
      intro hj
      obtain ⟨r1, r2, r3, r4, r5⟩ := D_rec st ns i j (by omega)
      have a1 := h1 j (by omega)
      have a2 := h1 (j + 1) hj
      have a3 := ih (by omega)
      have hc : (0 : Int) ≤ (if ns.getD j 0 = st.getD i 0 then 0 else 1) ∧ (if ns.getD j 0 = st.getD i 0 then (0 : Int) else 1) ≤ 1 := by split <;> omega
      rcases r5 with r5 | r5 | r5 | ⟨hs, r5⟩
      · omega
      · omega
      · omega
      · have hs1 := hs.1
        have hs2 := hs.2.1
        have a4 := h2 (by omega) (j - 1) (by omega)
        omega
  induction i with
  | zero =>
    have z : ∀ j, j ≤ ns.length → ((0 : Nat) : Int) - j ≤ D st ns 0 j ∧ (j : Int) - (0 : Nat) ≤ D st ns 0 j ∧ D st ns 0 j ≤ (0 : Nat) + j := fun j hj => by rw [D_zero st ns j hj]; omega
    exact ⟨z, step 0 z (fun h => by omega)⟩
  | succ i ih => exact ⟨ih.2, step (i + 1) ih.2 (fun _ j hj => ⟨(ih.1 j hj).1, (ih.1 j hj).2.1⟩)⟩
theorem D_bd (st ns : List Int) (i j : Nat) (h : j ≤ ns.length) : (i : Int) - j ≤ D st ns i j ∧ (j : Int) - i ≤ D st ns i j ∧ D st ns i j ≤ i + j := (D_bd2 st ns i).1 j h

/-- What a cell of the band must hold of a distance: it, where it is at most the band; more than the band otherwise. -/
def Rel (band a b : Int) : Prop := (b ≤ band ∧ a = b) ∨ (band < b ∧ band < a)

end Go.Proofs.Qxb6600935aMods.Pl
