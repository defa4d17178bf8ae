/-
  BLOCKS OF INTS OF A KNOWN LENGTH, a string's bytes as numbers, and what a call that writes one block alone leaves.
-/
import Derived.Test.Qxb6600935aModsRowZ
import Derived.Test.Qxb6600935aModsEq5
namespace Go.Proofs.Qxb6600935aMods.B
open Go.ChangeShapes Go.WideShapes Go.ChangeAt Go.RowKit
open Go.Proofs.Qxb6600935aMods.Pl

/-- Byte k of a string, as a number. -/
def sb (s : ByteArray) (k : Nat) : Int := if h : k < s.size then ((s[k]'h).toNat : Int) else 0
theorem sb_at (s : ByteArray) : ∀ (k : Nat) (h : k < s.size), ((s[k]'h).toNat : Int) = sb s k := fun k h => by unfold sb; rw [dif_pos h]
theorem sb_lo (s : ByteArray) (k : Nat) : 0 ≤ sb s k := by unfold sb; split <;> omega
theorem sb_hi (s : ByteArray) (k : Nat) : sb s k ≤ 255 := by
  unfold sb
  split
  · have := (s[k]).toNat_lt; omega
  · omega
/-- All of them. -/
def sbs (s : ByteArray) : List Int := (List.range s.size).map (sb s)
theorem sbs_at (s : ByteArray) (k : Nat) : (sbs s).getD k 0 = sb s k := by
  unfold sbs
  by_cases h : k < s.size
  · simp [List.getD, h]
  · have : sb s k = 0 := by unfold sb; rw [dif_neg h]
    rw [this]
    simp [List.getD, h]

/-- Block Q holds L, m ints. -/
structure Blk (W : World) (Q m : Nat) (L : List Int) : Prop where
  len : L.length = m
  cell : ∀ t, t < m → W.cell? ⟨Q, t, none⟩ = some (.int .i64 (L.getD t 0))
  free : ∀ t, t < m → W.frozen? ⟨Q, t, none⟩ = false
theorem Blk.set {W : World} {Q m : Nat} {L : List Int} (h : Blk W Q m L) (k : Nat) (hk : k < m) (v : Int) : Blk (W.setCell ⟨Q, k, none⟩ (.int .i64 v)) Q m (L.set k v) := by
  refine ⟨by rw [List.length_set]; exact h.len, fun t ht => ?_, fun t ht => by simpa using h.free t ht⟩
  by_cases htk : t = k
  · subst htk
    rw [World.cell?_setCell_same W _ _ (h.cell t ht)]
    simp [List.getD, h.len, ht]
  · rw [World.cell?_setCell_other W _ _ _ (by simp <;> omega), h.cell t ht]
    simp only [List.getD]
    rw [List.getElem?_set_ne (by omega)]
theorem Blk.keep {W W' : World} {Q m B : Nat} {L : List Int} (h : Blk W Q m L) (hb : Below B W W') (hQ : Q < B) : Blk W' Q m L :=
  ⟨h.len, fun t ht => (hb.cell (p := ⟨Q, t, none⟩) hQ).trans (h.cell t ht), fun t ht => (hb.frozen (p := ⟨Q, t, none⟩) hQ).trans (h.free t ht)⟩
theorem Blk.drewN {W : World} {Q m : Nat} {L : List Int} (h : Blk W Q m L) (q : Nat) : Blk (W.drewN q) Q m L := ⟨h.len, h.cell, h.free⟩

/-- From w to w' block g alone has turned. -/
structure Turned (g : Nat) (w w' : World) : Prop where
  below : Below g w w'
  cells : ∀ q t, q ≠ g → w'.cell? ⟨q, t, none⟩ = w.cell? ⟨q, t, none⟩
  frozens : ∀ q t, w'.frozen? ⟨q, t, none⟩ = w.frozen? ⟨q, t, none⟩
  size : w'.heap.size = w.heap.size
theorem Turned.refl (g : Nat) (w : World) : Turned g w w := ⟨Below.refl _ _, fun _ _ _ => rfl, fun _ _ => rfl, rfl⟩
theorem Turned.drewN {g : Nat} {w w' : World} (h : Turned g w w') (q : Nat) : Turned g w (w'.drewN q) := ⟨below_drewN h.below q, h.cells, h.frozens, h.size⟩
theorem Turned.set {g : Nat} {w w' : World} (h : Turned g w w') (k : Nat) (v : Value) : Turned g w (w'.setCell ⟨g, k, none⟩ v) :=
  ⟨h.below.setCell (p := ⟨g, k, none⟩) (Nat.le_refl _) v, fun q t hq => (World.cell?_setCell_other w' _ _ _ (by simp <;> omega)).trans (h.cells q t hq), fun q t => by simpa using h.frozens q t, by simpa [World.setCell] using h.size⟩
theorem Blk.turned {W W' : World} {Q m g : Nat} {L : List Int} (h : Blk W Q m L) (ht : Turned g W W') (hQ : Q ≠ g) : Blk W' Q m L :=
  ⟨h.len, fun t hm => (ht.cells Q t hQ).trans (h.cell t hm), fun t hm => (ht.frozens Q t).trans (h.free t hm)⟩

theorem take_set2 (L T : List Int) (k m : Nat) (v : Int) (hL : L.length = m) (hk : k + 1 < m) (h : L.take (k + 1) = T) : (L.set (k + 1) v).take (k + 1 + 1) = T ++ [v] := by
  rw [List.take_succ_eq_append_getElem (by rw [List.length_set]; omega)]
  simp only [List.getElem_set_self, List.take_set_of_le (Nat.le_refl (k + 1)), h]

/-- WHAT zzOSARow LEAVES. -/
def OsaPost (w : World) (g0 m : Nat) (R : List Int) (e : Ending) (w' : World) : Prop := e = .returned (.tuple #[]) ∧ Turned g0 w w' ∧ Blk w' g0 m R

theorem osaStep_bd (a p : Int) (ns : List Int) (i : Nat) (d2 d1 : List Int) (left : Int) (j : Nat) (h2 : ∀ t, 0 ≤ d2.getD t 0) (h1 : ∀ t, 0 ≤ d1.getD t 0) (hl : 0 ≤ left) : 0 ≤ osaStep a p ns i d2 d1 left j ∧ osaStep a p ns i d2 d1 left j ≤ left + 1 := by
  unfold osaStep
  have a1 := h2 (j - 2)
  have a2 := h1 (j - 1)
  have a3 := h1 j
  simp only
  constructor
  · split <;> (try split) <;> (try split) <;> (try split) <;> omega
  · split <;> (try split) <;> (try split) <;> (try split) <;> omega
theorem osaTo_bd (a p : Int) (ns : List Int) (i : Nat) (d2 d1 : List Int) (h2 : ∀ t, 0 ≤ d2.getD t 0) (h1 : ∀ t, 0 ≤ d1.getD t 0) (j : Nat) : 0 ≤ (osaTo a p ns i d2 d1 j).getD j 0 ∧ (osaTo a p ns i d2 d1 j).getD j 0 ≤ i + j := by
  induction j with
  | zero => simp [osaTo]
  | succ j ih =>
    rw [osaTo_last]
    have := osaStep_bd a p ns i d2 d1 ((osaTo a p ns i d2 d1 j).getD j 0) (j + 1) h2 h1 ih.1
    omega

end Go.Proofs.Qxb6600935aMods.B
