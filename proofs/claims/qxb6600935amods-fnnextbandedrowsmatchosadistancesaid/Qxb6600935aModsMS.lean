/-
  WHERE THE LAW's LOOP STANDS, and what one round needs, plainly.
-/
import Derived.Test.Qxb6600935aModsOsaRow
namespace Go.Proofs.Qxb6600935aMods.B
open Go.ChangeShapes Go.WideShapes Go.ChangeAt Go.RowKit
open Go.Proofs.Qxb6600935aMods.Pl

/-- A list's entry, 0 behind its end. -/
def fnOf (L : List Int) : Nat → Int := fun k => L.getD k 0
theorem five_of (L : List Int) (h : L.length = 5) : ∃ a b c d e, L = [a, b, c, d, e] := by
  match L, h with
  | [a, b, c, d, e], _ => exact ⟨a, b, c, d, e, rfl⟩
theorem of5_getD (L : List Int) (h : L.length = 5) : of5 (L.getD 0 0) (L.getD 1 0) (L.getD 2 0) (L.getD 3 0) (L.getD 4 0) = fnOf L := by
  match L, h with
  | [a, b, c, d, e], _ =>
    funext k
    match k with
    | 0 => rfl
    | 1 => rfl
    | 2 => rfl
    | 3 => rfl
    | 4 => rfl
    | k + 5 => simp [fnOf, of5, List.getD]

theorem tab_bd (st ns : List Int) (i : Nat) (hi : i ≤ 4096) (hn : ns.length ≤ 4096) (t : Nat) : 0 ≤ (tab st ns i).2.getD t 0 ∧ (tab st ns i).2.getD t 0 ≤ 9000 := by
  by_cases ht : t ≤ ns.length
  · have := D_bd st ns i t ht
    unfold D at this
    omega
  · have : (tab st ns i).2.getD t 0 = 0 := by
      simp only [List.getD]
      rw [List.getElem?_eq_none (by rw [(length_tab st ns i).2]; omega)]
      rfl
    omega
theorem tab_bd1 (st ns : List Int) (i : Nat) (hi : i ≤ 4096) (hn : ns.length ≤ 4096) (t : Nat) : 0 ≤ (tab st ns i).1.getD t 0 ∧ (tab st ns i).1.getD t 0 ≤ 9000 := by
  cases i with
  | zero =>
    have : (tab st ns 0).1.getD t 0 = 0 := by
      simp only [tab, List.getD, List.getElem?_replicate]
      split <;> rfl
    omega
  | succ i => exact tab_bd st ns i (by omega) hn t

/-- One round, plainly. -/
theorem row_ok (st ns : List Int) (band limit : Int) (i' : Nat) (prev : Int) (O A : List Int) (hb0 : 0 ≤ band) (hb2 : band ≤ 2) (hlim : limit ≤ band) (hn : ns.length ≤ 4096) (hi : i' + 1 ≤ 4096)
    (hprev : 1 ≤ i' → prev = st.getD (i' - 1) 0) (hA : Holds st ns band i' (fnOf A)) (hO : 1 ≤ i' → Holds st ns band (i' - 1) (fnOf O)) (sA : Small ((i' : Int) + 3) (fnOf A)) (sO : Small ((i' : Int) + 3) (fnOf O)) (R : List Int)
    (hR : R = rowOf (cells ns band ((i' : Int) + 1) (st.getD i' 0) prev (fnOf O) (fnOf A) (2 * band + 1).toNat)) :
    Holds st ns band (i' + 1) (fnOf R) ∧ Small (((i' + 1 : Nat) : Int) + 3) (fnOf R) ∧ R.length = 5 ∧ near (cells ns band ((i' : Int) + 1) (st.getD i' 0) prev (fnOf O) (fnOf A) (2 * band + 1).toNat) limit = near (tab st ns (i' + 1)).2 limit := by
  have e1 : ((i' + 1 : Nat) : Int) = (i' : Int) + 1 := by omega
  have hne := near_eq st ns band limit i' prev (fnOf O) (fnOf A) hb0 hb2 hlim hn hi hprev hA hO sA sO
  have hr := band_row st ns band i' prev (fnOf O) (fnOf A) hb0 hb2 hn hi hprev hA hO sA sO (2 * band + 1).toNat (by omega)
  rw [e1] at hne hr
  obtain ⟨C, hC⟩ : ∃ C, cells ns band ((i' : Int) + 1) (st.getD i' 0) prev (fnOf O) (fnOf A) (2 * band + 1).toNat = C := ⟨_, rfl⟩
  have hlen : C.length = (2 * band + 1).toNat := by rw [← hC, length_cells]
  rw [hC] at hne hr hR ⊢
  have hat : ∀ k, fnOf R k = C.getD k 0 := fun k => by
    unfold fnOf
    rw [hR]
    by_cases hk : k < C.length
    · exact rowOf_at C k hk
    · unfold rowOf
      simp only [List.getD]
      rw [List.getElem?_append_right (by omega), List.getElem?_eq_none (l := C) (by omega), List.getElem?_replicate]
      split <;> rfl
  refine ⟨fun k jj hk e h => ?_, fun k => ?_, ?_, hne⟩
  · rw [hat k]
    exact hr.1 k jj (by omega) (by omega) h
  · rw [hat k]
    have := hr.2 k
    omega
  · rw [hR]
    exact length_rowOf C (by omega)

theorem zeros_at (n : Nat) (band : Int) (m k : Nat) (h : k < m) : (zeros n band m).getD k 0 = zeroAt n band k := by
  induction m with
  | zero => omega
  | succ m ih =>
    by_cases hk : k = m
    · subst hk
      simp only [zeros, List.getD]
      rw [List.getElem?_append_right (by rw [length_zeros]; omega), length_zeros]
      simp
    · rw [← ih (by omega)]
      simp only [zeros, List.getD]
      rw [List.getElem?_append_left (by rw [length_zeros]; omega)]
/-- Row 0, plainly. -/
theorem zero_ok (st ns : List Int) (n : Nat) (band : Int) (hb0 : 0 ≤ band) (hb2 : band ≤ 2) (hn : ns.length = n) (R : List Int) (hR : R = rowOf (zeros n band (2 * band + 1).toNat)) :
    Holds st ns band 0 (fnOf R) ∧ Small (((0 : Nat) : Int) + 3) (fnOf R) ∧ R.length = 5 := by
  have hl := length_zeros n band (2 * band + 1).toNat
  have hat : ∀ k, fnOf R k = (zeros n band (2 * band + 1).toNat).getD k 0 := fun k => by
    unfold fnOf
    rw [hR]
    by_cases hk : k < (2 * band + 1).toNat
    · exact rowOf_at _ k (by rw [hl]; exact hk)
    · unfold rowOf
      simp only [List.getD]
      rw [List.getElem?_append_right (by omega), List.getElem?_eq_none (l := zeros n band (2 * band + 1).toNat) (by omega), List.getElem?_replicate]
      split <;> rfl
  refine ⟨fun k jj hk e h => ?_, fun k => ?_, ?_⟩
  · rw [hat k, zeros_at _ _ _ _ (by omega), D_zero st ns jj h, zeroAt, if_pos (by omega)]
    unfold Rel
    omega
  · rw [hat k]
    by_cases hk : k < (2 * band + 1).toNat
    · rw [zeros_at _ _ _ _ hk, zeroAt]
      split <;> omega
    · have : (zeros n band (2 * band + 1).toNat).getD k 0 = 0 := by
        simp only [List.getD]
        rw [List.getElem?_eq_none (by omega)]
        rfl
      omega
  · rw [hR]
    exact length_rowOf _ (by omega)

theorem small_mono {m m' : Int} {f : Nat → Int} (h : Small m f) (hm : m ≤ m') : Small m' f := fun k => ⟨(h k).1, Int.le_trans (h k).2 hm⟩

/-- What lies in memory at the law's loop: the three rows of the table, older and above; w0 is the world in which the name was copied. -/
structure MS (W w0 : World) (n g2 g1 g0 po pa : Nat) (T2 T1 T0 O A : List Int) : Prop where
  below : Below w0.heap.size w0 W
  b2 : Blk W g2 (n + 1) T2
  b1 : Blk W g1 (n + 1) T1
  b0 : Blk W g0 (n + 1) T0
  bo : Blk W po 5 O
  ba : Blk W pa 5 A
  n20 : g2 ≠ g0
  n10 : g1 ≠ g0
  n21 : g2 ≠ g1
  noa : po ≠ pa
  no2 : g2 ≠ po
  no1 : g1 ≠ po
  no0 : g0 ≠ po
  na2 : g2 ≠ pa
  na1 : g1 ≠ pa
  na0 : g0 ≠ pa
  l2 : w0.heap.size ≤ g2
  l1 : w0.heap.size ≤ g1
  l0 : w0.heap.size ≤ g0
  lo : w0.heap.size ≤ po
  la : w0.heap.size ≤ pa
  h2 : g2 < W.heap.size
  h1 : g1 < W.heap.size
  h0 : g0 < W.heap.size
  ho : po < W.heap.size
  ha : pa < W.heap.size

theorem MS.row {W w0 W' : World} {n g2 g1 g0 po pa : Nat} {T2 T1 T0 O A T : List Int} (h : MS W w0 n g2 g1 g0 po pa T2 T1 T0 O A) (ht : Turned g0 W W') (hb : Blk W' g0 (n + 1) T) : MS W' w0 n g2 g1 g0 po pa T2 T1 T O A :=
  { h with
    below := h.below.trans (ht.below.mono h.l0)
    b2 := h.b2.turned ht h.n20
    b1 := h.b1.turned ht h.n10
    b0 := hb
    bo := h.bo.turned ht (Ne.symm h.no0)
    ba := h.ba.turned ht (Ne.symm h.na0)
    h2 := by rw [ht.size]; exact h.h2
    h1 := by rw [ht.size]; exact h.h1
    h0 := by rw [ht.size]; exact h.h0
    ho := by rw [ht.size]; exact h.ho
    ha := by rw [ht.size]; exact h.ha }
theorem MS.grow {W w0 W' : World} {n g2 g1 g0 po pa : Nat} {T2 T1 T0 O A : List Int} (h : MS W w0 n g2 g1 g0 po pa T2 T1 T0 O A) (hb : Below W.heap.size W W') : MS W' w0 n g2 g1 g0 po pa T2 T1 T0 O A :=
  { h with
    below := h.below.trans (hb.mono (Nat.le_of_lt (Nat.lt_of_le_of_lt h.l0 h.h0)))
    b2 := h.b2.keep hb h.h2
    b1 := h.b1.keep hb h.h1
    b0 := h.b0.keep hb h.h0
    bo := h.bo.keep hb h.ho
    ba := h.ba.keep hb h.ha
    h2 := Nat.lt_of_lt_of_le h.h2 hb.size
    h1 := Nat.lt_of_lt_of_le h.h1 hb.size
    h0 := Nat.lt_of_lt_of_le h.h0 hb.size
    ho := Nat.lt_of_lt_of_le h.ho hb.size
    ha := Nat.lt_of_lt_of_le h.ha hb.size }
theorem MS.drewN {W w0 : World} {n g2 g1 g0 po pa : Nat} {T2 T1 T0 O A : List Int} (h : MS W w0 n g2 g1 g0 po pa T2 T1 T0 O A) (q : Nat) : MS (W.drewN q) w0 n g2 g1 g0 po pa T2 T1 T0 O A :=
  h.grow (below_drewN (Below.refl _ _) q)
theorem MS.turn {W w0 : World} {n g2 g1 g0 po pa : Nat} {T2 T1 T0 O A : List Int} (h : MS W w0 n g2 g1 g0 po pa T2 T1 T0 O A) : MS W w0 n g1 g0 g2 po pa T1 T0 T2 O A :=
  { h with
    b2 := h.b1, b1 := h.b0, b0 := h.b2
    n20 := Ne.symm h.n21, n10 := Ne.symm h.n20, n21 := h.n10
    no2 := h.no1, no1 := h.no0, no0 := h.no2
    na2 := h.na1, na1 := h.na0, na0 := h.na2
    l2 := h.l1, l1 := h.l0, l0 := h.l2
    h2 := h.h1, h1 := h.h0, h0 := h.h2 }

theorem Blk.other {W : World} {Q m : Nat} {L : List Int} (h : Blk W Q m L) {g : Nat} (hg : Q ≠ g) (k : Nat) (v : Value) : Blk (W.setCell ⟨g, k, none⟩ v) Q m L :=
  ⟨h.len, fun t ht => (World.cell?_setCell_other W _ _ _ (by simp <;> omega)).trans (h.cell t ht), fun t ht => by simpa using h.free t ht⟩
/-- Five stores. -/
def five (W : World) (g : Nat) (R : List Int) : World :=
  ((((W.setCell ⟨g, 0, none⟩ (.int .i64 (R.getD 0 0))).setCell ⟨g, 1, none⟩ (.int .i64 (R.getD 1 0))).setCell ⟨g, 2, none⟩ (.int .i64 (R.getD 2 0))).setCell ⟨g, 3, none⟩ (.int .i64 (R.getD 3 0))).setCell ⟨g, 4, none⟩ (.int .i64 (R.getD 4 0))
theorem five_blk {W : World} {g : Nat} {L : List Int} (h : Blk W g 5 L) (R : List Int) (hR : R.length = 5) : Blk (five W g R) g 5 R := by
  have := ((((h.set 0 (by omega) (R.getD 0 0)).set 1 (by omega) (R.getD 1 0)).set 2 (by omega) (R.getD 2 0)).set 3 (by omega) (R.getD 3 0)).set 4 (by omega) (R.getD 4 0)
  have e : ((((L.set 0 (R.getD 0 0)).set 1 (R.getD 1 0)).set 2 (R.getD 2 0)).set 3 (R.getD 3 0)).set 4 (R.getD 4 0) = R := by
    obtain ⟨a, b, c, d, e, rfl⟩ := five_of L h.len
    obtain ⟨a', b', c', d', e', rfl⟩ := five_of R hR
    rfl
  rw [e] at this
  exact this
theorem five_turned (W : World) (g : Nat) (R : List Int) : Turned g W (five W g R) := ((((Turned.refl g W).set 0 _).set 1 _).set 2 _).set 3 _ |>.set 4 _
theorem MS.setO {W w0 : World} {n g2 g1 g0 po pa : Nat} {T2 T1 T0 O A : List Int} (h : MS W w0 n g2 g1 g0 po pa T2 T1 T0 O A) (R : List Int) (hR : R.length = 5) : MS (five W po R) w0 n g2 g1 g0 po pa T2 T1 T0 R A := by
  have ht := five_turned W po R
  exact { h with
    below := h.below.trans (ht.below.mono h.lo)
    b2 := h.b2.turned ht h.no2
    b1 := h.b1.turned ht h.no1
    b0 := h.b0.turned ht h.no0
    bo := five_blk h.bo R hR
    ba := h.ba.turned ht (Ne.symm h.noa)
    h2 := by rw [ht.size]; exact h.h2
    h1 := by rw [ht.size]; exact h.h1
    h0 := by rw [ht.size]; exact h.h0
    ho := by rw [ht.size]; exact h.ho
    ha := by rw [ht.size]; exact h.ha }
theorem MS.setA {W w0 : World} {n g2 g1 g0 po pa : Nat} {T2 T1 T0 O A : List Int} (h : MS W w0 n g2 g1 g0 po pa T2 T1 T0 O A) (R : List Int) (hR : R.length = 5) : MS (five W pa R) w0 n g2 g1 g0 po pa T2 T1 T0 O R := by
  have ht := five_turned W pa R
  exact { h with
    below := h.below.trans (ht.below.mono h.la)
    b2 := h.b2.turned ht h.na2
    b1 := h.b1.turned ht h.na1
    b0 := h.b0.turned ht h.na0
    bo := h.bo.turned ht h.noa
    ba := five_blk h.ba R hR
    h2 := by rw [ht.size]; exact h.h2
    h1 := by rw [ht.size]; exact h.h1
    h0 := by rw [ht.size]; exact h.h0
    ho := by rw [ht.size]; exact h.ho
    ha := by rw [ht.size]; exact h.ha }

/-- A new block of five. -/
theorem blk_new (W : World) (ty : TypeId) (R : List Int) (hR : R.length = 5) :
    Blk (W.alloc (.cells #[.int .i64 (R.getD 0 0), .int .i64 (R.getD 1 0), .int .i64 (R.getD 2 0), .int .i64 (R.getD 3 0), .int .i64 (R.getD 4 0)] ty)) W.heap.size 5 R := by
  have fv : ∀ t, t < 5 → t = 0 ∨ t = 1 ∨ t = 2 ∨ t = 3 ∨ t = 4 := fun t ht => by omega
  refine ⟨hR, fun t ht => ?_, fun t ht => World.frozen?_alloc_at _ _ _ _ rfl⟩
  rw [World.cell?_alloc_at _ _ _ _ rfl]
  rcases fv t ht with rfl | rfl | rfl | rfl | rfl <;> rfl
theorem Own3.blk {w : World} {base g m : Nat} (h : w.ownsRow base 3 1 (.slice (some ⟨g, 0, none⟩) m m) m (madeCells (Value.int .i64 0).cells (m * 1)).toList) : Blk w g m (List.replicate m 0) := by
  have e : (madeCells (Value.int .i64 0).cells (m * 1)).toList = (List.replicate m (0 : Int)).map (Value.int .i64) := by
    rw [Nat.mul_one, show (Value.int .i64 0).cells = #[Value.int .i64 0] from rfl, toList_madeCells_one]
    simp
  rw [e] at h
  refine ⟨by simp, fun t ht => ?_, fun t ht => h.frozenAt t⟩
  rw [h.cellAt t (by simpa using ht)]
  simp [List.getD, ht]

end Go.Proofs.Qxb6600935aMods.B
